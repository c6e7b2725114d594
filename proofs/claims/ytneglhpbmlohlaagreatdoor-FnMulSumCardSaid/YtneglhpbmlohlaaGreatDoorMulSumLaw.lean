/- laws.FnMulSum returns true, whatever three Values it is given, and touches nothing that was there. -/
import Derived.Test.YtneglhpbmlohlaaGreatDoorFits1
import Derived.Test.YtneglhpbmlohlaaGreatDoorWhole
import Derived.Test.YtneglhpbmlohlaaGreatDoorPlan
import Derived.Deep.RegionWith
import Derived.Deep.RegionHeld3
namespace Go.Proofs.YtneglhpbmlohlaaGreatDoor
open Go.RowKit

theorem trio (w : World) (a b c : VC) : Below w.heap.size w (((w.alloc (.cells a.arr 26)).alloc (.cells b.arr 26)).alloc (.cells c.arr 26)) ∧
    Box (((w.alloc (.cells a.arr 26)).alloc (.cells b.arr 26)).alloc (.cells c.arr 26)) w.heap.size a ∧
    Box (((w.alloc (.cells a.arr 26)).alloc (.cells b.arr 26)).alloc (.cells c.arr 26)) (w.heap.size + 1) b ∧
    Box (((w.alloc (.cells a.arr 26)).alloc (.cells b.arr 26)).alloc (.cells c.arr 26)) (w.heap.size + 1 + 1) c := by
  refine ⟨(((Below.refl _ _).alloc (Nat.le_refl _) _).alloc (by simp) _).alloc (by simp; omega) _, ?_, ?_, ?_⟩
  · exact (box_alloc w a).below (((Below.refl (w.heap.size + 1) _).alloc (by simp) _).alloc (by simp) _) (by omega)
  · have := box_alloc (w.alloc (.cells a.arr 26)) b
    simp only [World.size_alloc] at this
    exact this.below ((Below.refl (w.heap.size + 2) _).alloc (by simp) _) (by omega)
  · have := box_alloc ((w.alloc (.cells a.arr 26)).alloc (.cells b.arr 26)) c
    simp only [World.size_alloc] at this
    exact this

/-- The three boxes as they lie, and all below the first as it was. -/
structure Trio (w : World) (a b c : VC) (w' : World) : Prop where
  low : Below w.heap.size w w'
  a : Box w' w.heap.size a
  b : Box w' (w.heap.size + 1) b
  c : Box w' (w.heap.size + 1 + 1) c
  size : w.heap.size + 3 ≤ w'.heap.size
theorem Trio.go {w w1 w2 : World} {a b c : VC} (h : Trio w a b c w1) (hb : Below w1.heap.size w1 w2) : Trio w a b c w2 :=
  ⟨h.low.trans (hb.mono h.low.size), h.a.below hb h.a.lt, h.b.below hb h.b.lt, h.c.below hb h.c.lt, Nat.le_trans h.size hb.size⟩
theorem trio_made (w : World) (a b c : VC) : Trio w a b c (((w.alloc (.cells a.arr 26)).alloc (.cells b.arr 26)).alloc (.cells c.arr 26)) :=
  let ⟨h, ha, hb, hc⟩ := trio w a b c
  ⟨h, ha, hb, hc, by simp⟩

/-- A number's reading hangs on no memory. -/
theorem VR.any {w : World} {S : Nat → Prop} {h : Int} {c : VC} (hv : VR w S (.num h) c) (w' : World) (S' : Nat → Prop) : VR w' S' (.num h) c := by
  rw [VR]
  refine ⟨hv.head, fun i hi => ?_, fun i hi => ?_, fun i hi => ?_⟩
  · simp [J.list] at hi
  · simp [J.ents] at hi
  · simp [J.ents] at hi
theorem small24 {n : Int} (h1 : -16777216 ≤ n) (h2 : n ≤ 16777216) : Small n := ⟨by omega, by omega⟩
theorem small_mul' {a b A B : Int} (ha : -A ≤ a ∧ a ≤ A) (hb : -B ≤ b ∧ b ≤ B) : -(A * B) ≤ a * b ∧ a * b ≤ A * B := by
  have hA : 0 ≤ A := by omega
  have hB : 0 ≤ B := by omega
  have h1 : (a * b).natAbs ≤ (A * B).natAbs := by
    rw [Int.natAbs_mul, Int.natAbs_mul]
    exact Nat.mul_le_mul (by omega) (by omega)
  have h2 : 0 ≤ A * B := Int.mul_nonneg hA hB
  omega
theorem small_mul {a b : Int} (h1 : -16777216 ≤ a) (h2 : a ≤ 16777216) (h3 : -16777216 ≤ b) (h4 : b ≤ 16777216) : Small (a * b) := by
  have := small_mul' (A := 16777216) (B := 16777216) ⟨h1, h2⟩ ⟨h3, h4⟩
  unfold Small
  omega

theorem below_fork {B : Nat} {w x y : World} (hx : Below B w x) (hy : Below B w y) (hs : x.heap.size ≤ y.heap.size) : Below B x y :=
  ⟨hy.os.trans hx.os.symm, hy.tape.trans hx.tape.symm, hy.output.trans hx.output.symm, hs, fun k hk => (hy.block k hk).trans (hx.block k hk).symm⟩

/-- The value in a Res. -/
@[go_sem] theorem field_res (v0 v1 v2 v3 v4 v5 v6 : Value) (w : World) : (Instr.field 30 (.agg #[v0, v1, v2, v3, v4, v5, v6]) 0).run Tryz.prog w = .ok (.agg #[v0, v1, v2, v3, v4, v5]) w := by kernel_rfl

/-- The plan of 'x, y := f(a, b), f(a, c)'. -/
def twoIt (A B R A' C R' : Value) : Nat → Item
  | 0 => .val (isV A) | 1 => .val (isV B) | 2 => .val (isV R) | 3 => .val (isV A') | 4 => .val (isV C) | 5 => .val (isV R')
  | 6 => .box 30 7 | 7 => .box 30 7 | 8 => .put 6 2 | 9 => .put 7 5 | _ => .val fun _ _ _ => True
theorem twoIt_st (A B R A' C R' : Value) : ∀ i φ, twoIt A B R A' C R' i = .val φ → ∀ v S w w', φ v S w → Same S w w' → φ v S w' := by
  intro i φ hi v S w1 w2 hv _
  rcases i with _ | _ | _ | _ | _ | _ | _ | _ | _ | _ | i <;> cases hi <;> exact hv
theorem twoIt_one (A B R A' C R' : Value) : ∀ i j b s s', twoIt A B R A' C R' i = .put b s → twoIt A B R A' C R' j = .put b s' → i = j := by
  intro i j b s s' hi hj
  rcases i with _ | _ | _ | _ | _ | _ | _ | _ | _ | _ | i <;> cases hi <;> rcases j with _ | _ | _ | _ | _ | _ | _ | _ | _ | _ | j <;> cases hj <;> rfl
theorem twoIt_rest (A B R A' C R' : Value) : ∀ i, 10 ≤ i → twoIt A B R A' C R' i = .val fun _ _ _ => True := by
  intro i hi
  rcases i with _ | _ | _ | _ | _ | _ | _ | _ | _ | _ | i
  all_goals first | omega | rfl

/-- Two outcomes in boxes of their own. -/
def TwoRes (w : World) (a b c x y : VC) (u v : Value) (wx : World) : Prop :=
  ∃ Nx Ny, u = .pointer (some ⟨Nx, 0, none⟩) ∧ v = .pointer (some ⟨Ny, 0, none⟩) ∧ ResBox wx Nx x 0 ∧ ResBox wx Ny y 0 ∧ Trio w a b c wx

set_option maxRecDepth 100000 in
set_option maxHeartbeats 4000000 in
theorem FnMulSum_any (ta tb tc : T) (a b c : VC) (B : Nat) {w : World} (hB : B ≤ w.heap.size) (h40 : LB ≤ B) (hT : Tabs w) (ha : TR w B ta a) (hb : TR w B tb b) (hc : TR w B tc c) :
    Calls Tryz.prog 3 #[a.val, b.val, c.val] w (TruePost w) := by
  have T0 := trio_made w a b c
  have ZF := Lib.hid fun (t : T) (x : VC) (w' : World) (hx : TR w B t x) (hl : Below w.heap.size w w') => zzFits1_any t x (B := B) (w := w') (Nat.le_trans hB hl.size) (hx.go (hl.mono hB) (Nat.le_refl _))
  have ZW := Lib.hid fun (t : T) (x : VC) (w' : World) (hx : TR w B t x) (hl : Below w.heap.size w w') => whole_any (t := t) (c := x) 16777216 (w := w') (by omega) (hx.go (hl.mono hB) (Nat.le_refl _)) (Nat.le_trans hB hl.size) h40 (hT.below (hl.mono hB) h40)
  have HA := Lib.hid ha; have HBB := Lib.hid hb; have HC := Lib.hid hc
  clear ha hb hc hT
  have TT := Lib.hid T0
  have Z1 := Lib.hid (ZF.out ta a _ HA.out T0.low)
  clear T0
  obtain ⟨ka, kb, kc, kd, ke, kf, kg, kh, ki, kj, kk, kl⟩ := a
  obtain ⟨la, lb, lc, ld, le, lf, lg, lh, li, lj, lk, ll⟩ := b
  obtain ⟨ma, mb, mc, md, me, mf, mg, mh, mi, mj, mk, ml⟩ := c
  unfold VC.val
  unfold VC.val at Z1 ZF ZW
  unfold VC.arr at *
  go_enter Tryz.func3, Tryz.ntmps3
  go_wp2_with fail
  refine Z1.out.mono ?_
  rintro e w1 ⟨b1, rfl, hb1⟩
  have T1 := Lib.hid (TT.out.go hb1)
  clear hb1
  have t1 := T1.out
  have p0 := t1.a.c0; have p1 := t1.a.c1; have p2 := t1.a.c2; have p3 := t1.a.c3; have p4 := t1.a.c4; have p5 := t1.a.c5; have q0 := t1.b.c0; have q1 := t1.b.c1; have q2 := t1.b.c2; have q3 := t1.b.c3; have q4 := t1.b.c4; have q5 := t1.b.c5; have r0 := t1.c.c0; have r1 := t1.c.c1; have r2 := t1.c.c2; have r3 := t1.c.c3; have r4 := t1.c.c4; have r5 := t1.c.c5
  clear t1
  obtain rfl | rfl : b1 = false ∨ b1 = true := by cases b1 <;> simp
  · go_wp2_with fail
    go_ret
    exact ⟨rfl, T1.out.low⟩
  have Z2 := Lib.hid (ZF.out tb ⟨la, lb, lc, ld, le, lf, lg, lh, li, lj, lk, ll⟩ _ HBB.out T1.out.low)
  go_wp2_with fail
  refine Z2.out.mono ?_
  rintro e w2 ⟨b2, rfl, hb2⟩
  have T2 := Lib.hid (T1.out.go hb2)
  clear hb2
  clear p0 p1 p2 p3 p4 p5 q0 q1 q2 q3 q4 q5 r0 r1 r2 r3 r4 r5
  have t2 := T2.out
  have p0 := t2.a.c0; have p1 := t2.a.c1; have p2 := t2.a.c2; have p3 := t2.a.c3; have p4 := t2.a.c4; have p5 := t2.a.c5; have q0 := t2.b.c0; have q1 := t2.b.c1; have q2 := t2.b.c2; have q3 := t2.b.c3; have q4 := t2.b.c4; have q5 := t2.b.c5; have r0 := t2.c.c0; have r1 := t2.c.c1; have r2 := t2.c.c2; have r3 := t2.c.c3; have r4 := t2.c.c4; have r5 := t2.c.c5
  clear t2
  obtain rfl | rfl : b2 = false ∨ b2 = true := by cases b2 <;> simp
  · go_wp2_with fail
    go_ret
    exact ⟨rfl, T2.out.low⟩
  have Z3 := Lib.hid (ZF.out tc ⟨ma, mb, mc, md, me, mf, mg, mh, mi, mj, mk, ml⟩ _ HC.out T2.out.low)
  go_wp2_with fail
  refine Z3.out.mono ?_
  rintro e w3 ⟨b3, rfl, hb3⟩
  have T3 := Lib.hid (T2.out.go hb3)
  clear hb3
  clear p0 p1 p2 p3 p4 p5 q0 q1 q2 q3 q4 q5 r0 r1 r2 r3 r4 r5
  have t3 := T3.out
  have p0 := t3.a.c0; have p1 := t3.a.c1; have p2 := t3.a.c2; have p3 := t3.a.c3; have p4 := t3.a.c4; have p5 := t3.a.c5; have q0 := t3.b.c0; have q1 := t3.b.c1; have q2 := t3.b.c2; have q3 := t3.b.c3; have q4 := t3.b.c4; have q5 := t3.b.c5; have r0 := t3.c.c0; have r1 := t3.c.c1; have r2 := t3.c.c2; have r3 := t3.c.c3; have r4 := t3.c.c4; have r5 := t3.c.c5
  clear t3
  obtain rfl | rfl : b3 = false ∨ b3 = true := by cases b3 <;> simp
  · go_wp2_with fail
    go_ret
    exact ⟨rfl, T3.out.low⟩
  have Z4 := Lib.hid (ZW.out ta ⟨ka, kb, kc, kd, ke, kf, kg, kh, ki, kj, kk, kl⟩ _ HA.out T3.out.low)
  go_wp2_with fail
  refine Z4.out.mono ?_
  rintro e w4 ⟨b4, rfl, hi4, hb4⟩
  have Y4 := Lib.hid hi4
  have T4 := Lib.hid (T3.out.go hb4)
  clear hb4 hi4
  clear p0 p1 p2 p3 p4 p5 q0 q1 q2 q3 q4 q5 r0 r1 r2 r3 r4 r5
  have t4 := T4.out
  have p0 := t4.a.c0; have p1 := t4.a.c1; have p2 := t4.a.c2; have p3 := t4.a.c3; have p4 := t4.a.c4; have p5 := t4.a.c5; have q0 := t4.b.c0; have q1 := t4.b.c1; have q2 := t4.b.c2; have q3 := t4.b.c3; have q4 := t4.b.c4; have q5 := t4.b.c5; have r0 := t4.c.c0; have r1 := t4.c.c1; have r2 := t4.c.c2; have r3 := t4.c.c3; have r4 := t4.c.c4; have r5 := t4.c.c5
  clear t4
  obtain rfl | rfl : b4 = false ∨ b4 = true := by cases b4 <;> simp
  · go_wp2_with fail
    go_ret
    exact ⟨rfl, T4.out.low⟩
  have y4 := Y4.out rfl
  have YY4 := Lib.hid y4
  clear y4 Y4
  have Z5 := Lib.hid (ZW.out tb ⟨la, lb, lc, ld, le, lf, lg, lh, li, lj, lk, ll⟩ _ HBB.out T4.out.low)
  go_wp2_with fail
  refine Z5.out.mono ?_
  rintro e w5 ⟨b5, rfl, hi5, hb5⟩
  have Y5 := Lib.hid hi5
  have T5 := Lib.hid (T4.out.go hb5)
  clear hb5 hi5
  clear p0 p1 p2 p3 p4 p5 q0 q1 q2 q3 q4 q5 r0 r1 r2 r3 r4 r5
  have t5 := T5.out
  have p0 := t5.a.c0; have p1 := t5.a.c1; have p2 := t5.a.c2; have p3 := t5.a.c3; have p4 := t5.a.c4; have p5 := t5.a.c5; have q0 := t5.b.c0; have q1 := t5.b.c1; have q2 := t5.b.c2; have q3 := t5.b.c3; have q4 := t5.b.c4; have q5 := t5.b.c5; have r0 := t5.c.c0; have r1 := t5.c.c1; have r2 := t5.c.c2; have r3 := t5.c.c3; have r4 := t5.c.c4; have r5 := t5.c.c5
  clear t5
  obtain rfl | rfl : b5 = false ∨ b5 = true := by cases b5 <;> simp
  · go_wp2_with fail
    go_ret
    exact ⟨rfl, T5.out.low⟩
  have y5 := Y5.out rfl
  have YY5 := Lib.hid y5
  clear y5 Y5
  have Z6 := Lib.hid (ZW.out tc ⟨ma, mb, mc, md, me, mf, mg, mh, mi, mj, mk, ml⟩ _ HC.out T5.out.low)
  go_wp2_with fail
  refine Z6.out.mono ?_
  rintro e w6 ⟨b6, rfl, hi6, hb6⟩
  have Y6 := Lib.hid hi6
  have T6 := Lib.hid (T5.out.go hb6)
  clear hb6 hi6
  clear p0 p1 p2 p3 p4 p5 q0 q1 q2 q3 q4 q5 r0 r1 r2 r3 r4 r5
  have t6 := T6.out
  have p0 := t6.a.c0; have p1 := t6.a.c1; have p2 := t6.a.c2; have p3 := t6.a.c3; have p4 := t6.a.c4; have p5 := t6.a.c5; have q0 := t6.b.c0; have q1 := t6.b.c1; have q2 := t6.b.c2; have q3 := t6.b.c3; have q4 := t6.b.c4; have q5 := t6.b.c5; have r0 := t6.c.c0; have r1 := t6.c.c1; have r2 := t6.c.c2; have r3 := t6.c.c3; have r4 := t6.c.c4; have r5 := t6.c.c5
  clear t6
  obtain rfl | rfl : b6 = false ∨ b6 = true := by cases b6 <;> simp
  · go_wp2_with fail
    go_ret
    exact ⟨rfl, T6.out.low⟩
  have y6 := Y6.out rfl
  have YY6 := Lib.hid y6
  clear y6 Y6
  obtain ⟨x, hx, hx1, hx2⟩ := YY4.out
  obtain ⟨y, hy, hy1, hy2⟩ := YY5.out
  obtain ⟨z, hz, hz1, hz2⟩ := YY6.out
  have bxy := small_mul hx1 hx2 hy1 hy2
  have bxz := small_mul hx1 hx2 hz1 hz2
  have M1 := Lib.hid fun w' => OpMul_num x y _ _ w' (fun _ => False) (small24 hx1 hx2) (small24 hy1 hy2) bxy (hx.any w' _) (hy.any w' _) (fun _ h => h.elim)
  have M2 := Lib.hid fun w' => OpMul_num x z _ _ w' (fun _ => False) (small24 hx1 hx2) (small24 hz1 hz2) bxz (hx.any w' _) (hz.any w' _) (fun _ h => h.elim)
  have HX := Lib.hid hx; have HY := Lib.hid hy; have HZ := Lib.hid hz
  have BX := Lib.hid (And.intro hx1 hx2); have BY := Lib.hid (And.intro hy1 hy2); have BZ := Lib.hid (And.intro hz1 hz2)
  clear hx hy hz hx1 hx2 hy1 hy2 hz1 hz2 bxy bxz YY4 YY5 YY6 ZF ZW Z1 Z2 Z3 Z4 Z5 Z6 T1 T2 T3 T4 T5 TT
  simp only [VC.val, VC.arr] at M1 M2
  go_upto_region 5 with fail
  go_cut [7, 8] (fun u v wx => TwoRes w ⟨ka, kb, kc, kd, ke, kf, kg, kh, ki, kj, kk, kl⟩ ⟨la, lb, lc, ld, le, lf, lg, lh, li, lj, lk, ll⟩ ⟨ma, mb, mc, md, me, mf, mg, mh, mi, mj, mk, ml⟩ (numVC (2 * (x * y))) (numVC (2 * (x * z))) u v wx)
  case first =>
    rename_i J0 K0 hJ hM
    have t6 := T6.out
    have BA := Lib.hid t6.a; have BBX := Lib.hid t6.b; have BC := Lib.hid t6.c
    clear t6 p0 p1 p2 p3 p4 p5 q0 q1 q2 q3 q4 q5 r0 r1 r2 r3 r4 r5
    refine plan_region 10 68 [(0, 35), (1, 36), (2, 37), (3, 38), (4, 39), (5, 40), (6, 7), (7, 8)] [(3, .pointer (some ⟨w.heap.size, 0, none⟩)), (4, .pointer (some ⟨w.heap.size + 1, 0, none⟩)), (5, .pointer (some ⟨w.heap.size + 1 + 1, 0, none⟩))]
      (twoIt (VC.val ⟨ka, kb, kc, kd, ke, kf, kg, kh, ki, kj, kk, kl⟩) (VC.val ⟨la, lb, lc, ld, le, lf, lg, lh, li, lj, lk, ll⟩) (resVal (numVC (2 * (x * y))) 0) (VC.val ⟨ka, kb, kc, kd, ke, kf, kg, kh, ki, kj, kk, kl⟩) (VC.val ⟨ma, mb, mc, md, me, mf, mg, mh, mi, mj, mk, ml⟩) (resVal (numVC (2 * (x * z))) 0)) (by kernel_rfl) (by kernel_rfl) rfl ?_ (twoIt_st _ _ _ _ _ _) (twoIt_one _ _ _ _ _ _) (twoIt_rest _ _ _ _ _ _) ?_ ?_
    · intro p hp
      simp only [List.mem_cons, List.not_mem_nil, or_false] at hp
      rcases hp with rfl | rfl | rfl <;> rfl
    · intro i o ho
      rcases i with _ | _ | _ | _ | _ | _ | _ | _ | _ | _ | i
      · obtain rfl := Option.some.inj ho
        exact step_load 3 rfl rfl (by simp) BA.out
      · obtain rfl := Option.some.inj ho
        exact step_load 4 rfl rfl (by simp) BBX.out
      · obtain rfl := Option.some.inj ho
        exact step_call2 6 0 1 35 36 _ (enters_of Tryz.func6 (by kernel_rfl) rfl) rfl rfl (by simp) (by simp) rfl rfl (by kernel_rfl) (by kernel_rfl) M1.out
      · obtain rfl := Option.some.inj ho
        exact step_load 3 rfl rfl (by simp) BA.out
      · obtain rfl := Option.some.inj ho
        exact step_load 5 rfl rfl (by simp) BC.out
      · obtain rfl := Option.some.inj ho
        exact step_call2 6 3 4 38 39 _ (enters_of Tryz.func6 (by kernel_rfl) rfl) rfl rfl (by simp) (by simp) rfl rfl (by kernel_rfl) (by kernel_rfl) M2.out
      · obtain rfl := Option.some.inj ho
        exact step_res rfl rfl
      · obtain rfl := Option.some.inj ho
        exact step_res rfl rfl
      · obtain rfl := Option.some.inj ho
        exact step_put 6 2 7 37 rfl rfl rfl rfl (by simp) (by simp) (by kernel_rfl) (by kernel_rfl) rfl
      · obtain rfl := Option.some.inj ho
        exact step_put 7 5 8 40 rfl rfl rfl rfl (by simp) (by simp) (by kernel_rfl) (by kernel_rfl) rfl
      · have := (Array.getElem?_eq_some_iff.1 ho).1
        exact absurd this (Nat.not_lt.2 (Nat.le_add_left 10 i))
    · intro u S w1 hp
      obtain ⟨Nx, e7, l7, hx⟩ := plan_res hp (i := 8) (b := 6) (s := 2) rfl rfl rfl
      obtain ⟨Ny, e8, l8, hy⟩ := plan_res hp (i := 9) (b := 7) (s := 5) rfl rfl rfl
      have TT := Lib.hid (T6.out.go hp.low)
      have HX := Lib.hid hx; have HY := Lib.hid hy
      clear hp hx hy
      simp only [frameOf, frameL, List.zipIdx_cons, List.zipIdx_nil, Act.put, List.setIfInBounds_toArray, List.set_cons_zero, List.set_cons_succ, Nat.zero_add, Nat.reduceAdd]
      refine hM _ _ (Met.intro (hJ _ _ ?_))
      repeat apply Exists.intro
      refine ⟨?rel, rfl⟩
      case rel => exact ⟨Nx, Ny, e7, e8, HX.out, HY.out, TT.out⟩
  case rest =>
    obtain ⟨Nx, Ny, e7, e8, hRx, hRy, hT⟩ := hcut
    subst e7 e8
    have b0 := hT.a; have b1' := hT.b; have b2' := hT.c
    have p0 := b0.c0; have p1 := b0.c1; have p2 := b0.c2; have p3 := b0.c3; have p4 := b0.c4; have p5 := b0.c5
    have q0 := b1'.c0; have q1 := b1'.c1; have q2 := b1'.c2; have q3 := b1'.c3; have q4 := b1'.c4; have q5 := b1'.c5
    have r0 := b2'.c0; have r1 := b2'.c1; have r2 := b2'.c2; have r3 := b2'.c3; have r4 := b2'.c4; have r5 := b2'.c5
    have x0 := hRx.c0; have x1 := hRx.c1; have x2 := hRx.c2; have x3 := hRx.c3; have x4 := hRx.c4; have x5 := hRx.c5
    have y0 := hRy.c0; have y1 := hRy.c1; have y2 := hRy.c2; have y3 := hRy.c3; have y4 := hRy.c4; have y5 := hRy.c5
    simp only [numVC, VC.nil] at x0 x1 x2 x3 x4 x5 y0 y1 y2 y3 y4 y5
    have l0 := hT.a.lt; have l1 := hT.b.lt; have l2 := hT.c.lt; have l3 := hRx.lt; have l4 := hRy.lt
    have keep : ∀ (w' w'' : World), (w'.cell? ⟨w.heap.size, 0, none⟩ = some (.int .i64 ka) ∧ w'.cell? ⟨w.heap.size, 1, none⟩ = some (.int .i64 kb) ∧ w'.cell? ⟨w.heap.size, 2, none⟩ = some (.string kc) ∧ w'.cell? ⟨w.heap.size, 3, none⟩ = some (.slice kd ke kf) ∧ w'.cell? ⟨w.heap.size, 4, none⟩ = some (.slice kg kh ki) ∧ w'.cell? ⟨w.heap.size, 5, none⟩ = some (.slice kj kk kl) ∧ w'.cell? ⟨(w.heap.size + 1), 0, none⟩ = some (.int .i64 la) ∧ w'.cell? ⟨(w.heap.size + 1), 1, none⟩ = some (.int .i64 lb) ∧ w'.cell? ⟨(w.heap.size + 1), 2, none⟩ = some (.string lc) ∧ w'.cell? ⟨(w.heap.size + 1), 3, none⟩ = some (.slice ld le lf) ∧ w'.cell? ⟨(w.heap.size + 1), 4, none⟩ = some (.slice lg lh li) ∧ w'.cell? ⟨(w.heap.size + 1), 5, none⟩ = some (.slice lj lk ll) ∧ w'.cell? ⟨(w.heap.size + 1 + 1), 0, none⟩ = some (.int .i64 ma) ∧ w'.cell? ⟨(w.heap.size + 1 + 1), 1, none⟩ = some (.int .i64 mb) ∧ w'.cell? ⟨(w.heap.size + 1 + 1), 2, none⟩ = some (.string mc) ∧ w'.cell? ⟨(w.heap.size + 1 + 1), 3, none⟩ = some (.slice md me mf) ∧ w'.cell? ⟨(w.heap.size + 1 + 1), 4, none⟩ = some (.slice mg mh mi) ∧ w'.cell? ⟨(w.heap.size + 1 + 1), 5, none⟩ = some (.slice mj mk ml) ∧ w'.cell? ⟨Nx, 0, none⟩ = some (.int .i64 3) ∧ w'.cell? ⟨Nx, 1, none⟩ = some (.int .i64 (2 * (x * y))) ∧ w'.cell? ⟨Nx, 2, none⟩ = some (.string ByteArray.empty) ∧ w'.cell? ⟨Nx, 3, none⟩ = some (.slice none 0 0) ∧ w'.cell? ⟨Nx, 4, none⟩ = some (.slice none 0 0) ∧ w'.cell? ⟨Nx, 5, none⟩ = some (.slice none 0 0) ∧ w'.cell? ⟨Ny, 0, none⟩ = some (.int .i64 3) ∧ w'.cell? ⟨Ny, 1, none⟩ = some (.int .i64 (2 * (x * z))) ∧ w'.cell? ⟨Ny, 2, none⟩ = some (.string ByteArray.empty) ∧ w'.cell? ⟨Ny, 3, none⟩ = some (.slice none 0 0) ∧ w'.cell? ⟨Ny, 4, none⟩ = some (.slice none 0 0) ∧ w'.cell? ⟨Ny, 5, none⟩ = some (.slice none 0 0) ∧ Below wc.heap.size wc w') → Below w'.heap.size w' w'' → (w''.cell? ⟨w.heap.size, 0, none⟩ = some (.int .i64 ka) ∧ w''.cell? ⟨w.heap.size, 1, none⟩ = some (.int .i64 kb) ∧ w''.cell? ⟨w.heap.size, 2, none⟩ = some (.string kc) ∧ w''.cell? ⟨w.heap.size, 3, none⟩ = some (.slice kd ke kf) ∧ w''.cell? ⟨w.heap.size, 4, none⟩ = some (.slice kg kh ki) ∧ w''.cell? ⟨w.heap.size, 5, none⟩ = some (.slice kj kk kl) ∧ w''.cell? ⟨(w.heap.size + 1), 0, none⟩ = some (.int .i64 la) ∧ w''.cell? ⟨(w.heap.size + 1), 1, none⟩ = some (.int .i64 lb) ∧ w''.cell? ⟨(w.heap.size + 1), 2, none⟩ = some (.string lc) ∧ w''.cell? ⟨(w.heap.size + 1), 3, none⟩ = some (.slice ld le lf) ∧ w''.cell? ⟨(w.heap.size + 1), 4, none⟩ = some (.slice lg lh li) ∧ w''.cell? ⟨(w.heap.size + 1), 5, none⟩ = some (.slice lj lk ll) ∧ w''.cell? ⟨(w.heap.size + 1 + 1), 0, none⟩ = some (.int .i64 ma) ∧ w''.cell? ⟨(w.heap.size + 1 + 1), 1, none⟩ = some (.int .i64 mb) ∧ w''.cell? ⟨(w.heap.size + 1 + 1), 2, none⟩ = some (.string mc) ∧ w''.cell? ⟨(w.heap.size + 1 + 1), 3, none⟩ = some (.slice md me mf) ∧ w''.cell? ⟨(w.heap.size + 1 + 1), 4, none⟩ = some (.slice mg mh mi) ∧ w''.cell? ⟨(w.heap.size + 1 + 1), 5, none⟩ = some (.slice mj mk ml) ∧ w''.cell? ⟨Nx, 0, none⟩ = some (.int .i64 3) ∧ w''.cell? ⟨Nx, 1, none⟩ = some (.int .i64 (2 * (x * y))) ∧ w''.cell? ⟨Nx, 2, none⟩ = some (.string ByteArray.empty) ∧ w''.cell? ⟨Nx, 3, none⟩ = some (.slice none 0 0) ∧ w''.cell? ⟨Nx, 4, none⟩ = some (.slice none 0 0) ∧ w''.cell? ⟨Nx, 5, none⟩ = some (.slice none 0 0) ∧ w''.cell? ⟨Ny, 0, none⟩ = some (.int .i64 3) ∧ w''.cell? ⟨Ny, 1, none⟩ = some (.int .i64 (2 * (x * z))) ∧ w''.cell? ⟨Ny, 2, none⟩ = some (.string ByteArray.empty) ∧ w''.cell? ⟨Ny, 3, none⟩ = some (.slice none 0 0) ∧ w''.cell? ⟨Ny, 4, none⟩ = some (.slice none 0 0) ∧ w''.cell? ⟨Ny, 5, none⟩ = some (.slice none 0 0) ∧ Below wc.heap.size wc w'') := by
      rintro w' w'' ⟨h0, h1, h2, h3, h4, h5, h6, h7, h8, h9, h10, h11, h12, h13, h14, h15, h16, h17, h18, h19, h20, h21, h22, h23, h24, h25, h26, h27, h28, h29, h30⟩ hb
      have sz := h30.size
      exact ⟨(hb.cell (Nat.lt_of_lt_of_le (by first | exact l0 | exact l1 | exact l2 | exact l3 | exact l4) sz)).trans h0, (hb.cell (Nat.lt_of_lt_of_le (by first | exact l0 | exact l1 | exact l2 | exact l3 | exact l4) sz)).trans h1, (hb.cell (Nat.lt_of_lt_of_le (by first | exact l0 | exact l1 | exact l2 | exact l3 | exact l4) sz)).trans h2, (hb.cell (Nat.lt_of_lt_of_le (by first | exact l0 | exact l1 | exact l2 | exact l3 | exact l4) sz)).trans h3, (hb.cell (Nat.lt_of_lt_of_le (by first | exact l0 | exact l1 | exact l2 | exact l3 | exact l4) sz)).trans h4, (hb.cell (Nat.lt_of_lt_of_le (by first | exact l0 | exact l1 | exact l2 | exact l3 | exact l4) sz)).trans h5, (hb.cell (Nat.lt_of_lt_of_le (by first | exact l0 | exact l1 | exact l2 | exact l3 | exact l4) sz)).trans h6, (hb.cell (Nat.lt_of_lt_of_le (by first | exact l0 | exact l1 | exact l2 | exact l3 | exact l4) sz)).trans h7, (hb.cell (Nat.lt_of_lt_of_le (by first | exact l0 | exact l1 | exact l2 | exact l3 | exact l4) sz)).trans h8, (hb.cell (Nat.lt_of_lt_of_le (by first | exact l0 | exact l1 | exact l2 | exact l3 | exact l4) sz)).trans h9, (hb.cell (Nat.lt_of_lt_of_le (by first | exact l0 | exact l1 | exact l2 | exact l3 | exact l4) sz)).trans h10, (hb.cell (Nat.lt_of_lt_of_le (by first | exact l0 | exact l1 | exact l2 | exact l3 | exact l4) sz)).trans h11, (hb.cell (Nat.lt_of_lt_of_le (by first | exact l0 | exact l1 | exact l2 | exact l3 | exact l4) sz)).trans h12, (hb.cell (Nat.lt_of_lt_of_le (by first | exact l0 | exact l1 | exact l2 | exact l3 | exact l4) sz)).trans h13, (hb.cell (Nat.lt_of_lt_of_le (by first | exact l0 | exact l1 | exact l2 | exact l3 | exact l4) sz)).trans h14, (hb.cell (Nat.lt_of_lt_of_le (by first | exact l0 | exact l1 | exact l2 | exact l3 | exact l4) sz)).trans h15, (hb.cell (Nat.lt_of_lt_of_le (by first | exact l0 | exact l1 | exact l2 | exact l3 | exact l4) sz)).trans h16, (hb.cell (Nat.lt_of_lt_of_le (by first | exact l0 | exact l1 | exact l2 | exact l3 | exact l4) sz)).trans h17, (hb.cell (Nat.lt_of_lt_of_le (by first | exact l0 | exact l1 | exact l2 | exact l3 | exact l4) sz)).trans h18, (hb.cell (Nat.lt_of_lt_of_le (by first | exact l0 | exact l1 | exact l2 | exact l3 | exact l4) sz)).trans h19, (hb.cell (Nat.lt_of_lt_of_le (by first | exact l0 | exact l1 | exact l2 | exact l3 | exact l4) sz)).trans h20, (hb.cell (Nat.lt_of_lt_of_le (by first | exact l0 | exact l1 | exact l2 | exact l3 | exact l4) sz)).trans h21, (hb.cell (Nat.lt_of_lt_of_le (by first | exact l0 | exact l1 | exact l2 | exact l3 | exact l4) sz)).trans h22, (hb.cell (Nat.lt_of_lt_of_le (by first | exact l0 | exact l1 | exact l2 | exact l3 | exact l4) sz)).trans h23, (hb.cell (Nat.lt_of_lt_of_le (by first | exact l0 | exact l1 | exact l2 | exact l3 | exact l4) sz)).trans h24, (hb.cell (Nat.lt_of_lt_of_le (by first | exact l0 | exact l1 | exact l2 | exact l3 | exact l4) sz)).trans h25, (hb.cell (Nat.lt_of_lt_of_le (by first | exact l0 | exact l1 | exact l2 | exact l3 | exact l4) sz)).trans h26, (hb.cell (Nat.lt_of_lt_of_le (by first | exact l0 | exact l1 | exact l2 | exact l3 | exact l4) sz)).trans h27, (hb.cell (Nat.lt_of_lt_of_le (by first | exact l0 | exact l1 | exact l2 | exact l3 | exact l4) sz)).trans h28, (hb.cell (Nat.lt_of_lt_of_le (by first | exact l0 | exact l1 | exact l2 | exact l3 | exact l4) sz)).trans h29, h30.trans (hb.mono sz)⟩
    have KEEP := Lib.hid keep
    have TC := Lib.hid hT
    clear keep b0 b1' b2' hRx hRy hT
    have e1 : y * x = x * y := Int.mul_comm y x
    have e2 : x * y + x * z = x * (y + z) := (Int.mul_add x y z).symm
    have N1 := Lib.hid fun w' => OpMul_num y x _ _ w' (fun _ => False) (small24 BY.out.1 BY.out.2) (small24 BX.out.1 BX.out.2) (small_mul BY.out.1 BY.out.2 BX.out.1 BX.out.2) (HY.out.any w' _) (HX.out.any w' _) (fun _ h => h.elim)
    have sxy := small_mul' (A := 16777216) (B := 16777216) BX.out BY.out
    have sxz := small_mul' (A := 16777216) (B := 16777216) BX.out BZ.out
    have ssum := small_mul' (a := x) (b := y + z) (A := 16777216) (B := 33554432) BX.out (by have := BY.out; have := BZ.out; omega)
    have syz : Small (y + z) := by have := BY.out; have := BZ.out; unfold Small; omega
    have sall : Small (x * (y + z)) := by unfold Small; omega
    have hxy : Small (x * y) := by unfold Small; omega
    have hxz : Small (x * z) := by unfold Small; omega
    have hss : Small (x * y + x * z) := by rw [e2]; exact sall
    have N2 := Lib.hid fun w' => given_value (.num (2 * (x * y))) (numVC (2 * (x * y))) (numVC (2 * (x * y))) w' (fun _ => False) (JOK.num hxy) (VR.num _ _ _) (VR.num _ _ _) (fun _ h => h.elim)
    have N3 := Lib.hid fun w' => OpAdd_num y z _ _ w' (fun _ => False) (small24 BY.out.1 BY.out.2) (small24 BZ.out.1 BZ.out.2) syz (HY.out.any w' _) (HZ.out.any w' _) (fun _ h => h.elim)
    have N4 := Lib.hid fun w' => OpMul_num x (y + z) _ (numVC (2 * (y + z))) w' (fun _ => False) (small24 BX.out.1 BX.out.2) syz sall (HX.out.any w' _) (VR.num _ _ _) (fun _ h => h.elim)
    have N5 := Lib.hid fun w' => OpAdd_num (x * y) (x * z) (numVC (2 * (x * y))) (numVC (2 * (x * z))) w' (fun _ => False) hxy hxz hss (VR.num _ _ _) (VR.num _ _ _) (fun _ h => h.elim)
    have N6 := Lib.hid fun w' => given_value (.num (2 * (x * (y + z)))) (numVC (2 * (x * (y + z)))) (numVC (2 * (x * (y + z)))) w' (fun _ => False) (JOK.num sall) (VR.num _ _ _) (VR.num _ _ _) (fun _ h => h.elim)
    rw [e1] at N1
    rw [e2] at N5
    clear e1 e2 sxy sxz ssum syz sall hxy hxz hss
    simp only [VC.val, VC.arr, numVC, VC.nil, resVal] at N1 N2 N3 N4 N5 N6
    have self := (Below.refl wc.heap.size wc).drew
    go_wp2_with fail
    go_region_held3 (fun w' => w'.cell? ⟨w.heap.size, 0, none⟩ = some (.int .i64 ka) ∧ w'.cell? ⟨w.heap.size, 1, none⟩ = some (.int .i64 kb) ∧ w'.cell? ⟨w.heap.size, 2, none⟩ = some (.string kc) ∧ w'.cell? ⟨w.heap.size, 3, none⟩ = some (.slice kd ke kf) ∧ w'.cell? ⟨w.heap.size, 4, none⟩ = some (.slice kg kh ki) ∧ w'.cell? ⟨w.heap.size, 5, none⟩ = some (.slice kj kk kl) ∧ w'.cell? ⟨(w.heap.size + 1), 0, none⟩ = some (.int .i64 la) ∧ w'.cell? ⟨(w.heap.size + 1), 1, none⟩ = some (.int .i64 lb) ∧ w'.cell? ⟨(w.heap.size + 1), 2, none⟩ = some (.string lc) ∧ w'.cell? ⟨(w.heap.size + 1), 3, none⟩ = some (.slice ld le lf) ∧ w'.cell? ⟨(w.heap.size + 1), 4, none⟩ = some (.slice lg lh li) ∧ w'.cell? ⟨(w.heap.size + 1), 5, none⟩ = some (.slice lj lk ll) ∧ w'.cell? ⟨(w.heap.size + 1 + 1), 0, none⟩ = some (.int .i64 ma) ∧ w'.cell? ⟨(w.heap.size + 1 + 1), 1, none⟩ = some (.int .i64 mb) ∧ w'.cell? ⟨(w.heap.size + 1 + 1), 2, none⟩ = some (.string mc) ∧ w'.cell? ⟨(w.heap.size + 1 + 1), 3, none⟩ = some (.slice md me mf) ∧ w'.cell? ⟨(w.heap.size + 1 + 1), 4, none⟩ = some (.slice mg mh mi) ∧ w'.cell? ⟨(w.heap.size + 1 + 1), 5, none⟩ = some (.slice mj mk ml) ∧ w'.cell? ⟨Nx, 0, none⟩ = some (.int .i64 3) ∧ w'.cell? ⟨Nx, 1, none⟩ = some (.int .i64 (2 * (x * y))) ∧ w'.cell? ⟨Nx, 2, none⟩ = some (.string ByteArray.empty) ∧ w'.cell? ⟨Nx, 3, none⟩ = some (.slice none 0 0) ∧ w'.cell? ⟨Nx, 4, none⟩ = some (.slice none 0 0) ∧ w'.cell? ⟨Nx, 5, none⟩ = some (.slice none 0 0) ∧ w'.cell? ⟨Ny, 0, none⟩ = some (.int .i64 3) ∧ w'.cell? ⟨Ny, 1, none⟩ = some (.int .i64 (2 * (x * z))) ∧ w'.cell? ⟨Ny, 2, none⟩ = some (.string ByteArray.empty) ∧ w'.cell? ⟨Ny, 3, none⟩ = some (.slice none 0 0) ∧ w'.cell? ⟨Ny, 4, none⟩ = some (.slice none 0 0) ∧ w'.cell? ⟨Ny, 5, none⟩ = some (.slice none 0 0) ∧ Below wc.heap.size wc w')
      (first
        | go_keep
        | (refine KEEP.out _ _ ?_ hb9; assumption)
        | (refine KEEP.out _ _ ⟨?_, ?_, ?_, ?_, ?_, ?_, ?_, ?_, ?_, ?_, ?_, ?_, ?_, ?_, ?_, ?_, ?_, ?_, ?_, ?_, ?_, ?_, ?_, ?_, ?_, ?_, ?_, ?_, ?_, ?_, ?_⟩ hb9 <;> assumption))
      (first
        | (go_at_call_of 6 lb; refine (N1.out _).mono ?_; rintro e w9 ⟨rfl, hb9⟩)
        | (go_at_call_of 8 lb; refine (N3.out _).mono ?_; rintro e w9 ⟨rfl, hb9⟩)
        | (go_at_call 6; refine (N4.out _).mono ?_; rintro e w9 ⟨rfl, hb9⟩)
        | (go_at_call 8; refine (N5.out _).mono ?_; rintro e w9 ⟨rfl, hb9⟩)
        | (go_at_call 7; refine (N6.out _).mono ?_; rintro e w9 ⟨rfl, hb9⟩)
        | (go_at_call 7; refine (N2.out _).mono ?_; rintro e w9 ⟨rfl, hb9⟩))
    all_goals
      have hh := (by assumption : _ ∧ _)
      obtain ⟨-, -, -, -, -, -, -, -, -, -, -, -, -, -, -, -, -, -, -, -, -, -, -, -, -, -, -, -, -, -, hB9⟩ := hh
      go_wp2_with fail
      go_ret
      exact ⟨rfl, TC.out.low.trans (hB9.mono TC.out.low.size)⟩
end Go.Proofs.YtneglhpbmlohlaaGreatDoor
