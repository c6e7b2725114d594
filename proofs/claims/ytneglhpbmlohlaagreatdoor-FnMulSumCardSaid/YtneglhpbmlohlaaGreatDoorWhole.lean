/- laws.num, laws.whole at any readable tree, laws.given of an outcome that is as it should be. -/
import Derived.Test.YtneglhpbmlohlaaGreatDoorArith
import Derived.Test.YtneglhpbmlohlaaGreatDoorFit
import Derived.Test.YtneglhpbmlohlaaGreatDoorSame
import Derived.BigGuardPart
namespace Go.Proofs.YtneglhpbmlohlaaGreatDoor
open Go.RowKit

/-- Nothing below is touched, and a yes means P. -/
def YesMeans (P : Prop) (w : World) (e : Ending) (w' : World) : Prop := ∃ b, e = .returned (.bool b) ∧ (b = true → P) ∧ Below w.heap.size w w'

theorem num_any {B : Nat} {t : T} {c : VC} (m : Int) {w : World} (hm : 0 ≤ m ∧ m ≤ 16777216) (hR : TR w B t c) (hB : B ≤ w.heap.size) (h40 : LB ≤ B) (hT : Tabs w) :
    Calls Tryz.prog 10 #[c.val, .int .i64 m] w (YesMeans (Good t ∧ t.n ≤ 400 ∧ t.k = 3 ∧ -2 * m ≤ t.h ∧ t.h ≤ 2 * m) w) := by
  have hb0 : Below w.heap.size w (w.alloc (.cells c.arr 26)) := (Below.refl _ _).alloc (Nat.le_refl _) _
  have F := Lib.hid (Fit_any (hR.go (hb0.mono hB) (Nat.le_refl _)) (by simp; omega) h40 (hT.below (hb0.mono hB) h40))
  have BX := Lib.hid (box_alloc w c)
  rw [TR] at hR
  have hk := hR.1.k; have hh := hR.1.h
  have HB0 := Lib.hid hb0
  clear hb0 hR hT
  obtain ⟨k0, h0, s0, la, ll, lc, ka, kl, kc, va, vl, vc⟩ := c
  simp only at hk hh
  rw [← hk, ← hh]
  clear hk hh
  unfold VC.val
  unfold VC.val at F
  unfold VC.arr at *
  have e1 : wrap64 (-2 * m) = -2 * m := by unfold wrap64; omega
  have e2 : wrap64 (2 * m) = 2 * m := by unfold wrap64; omega
  go_enter Tryz.func10, Tryz.ntmps10
  go_wp2_with fail
  refine F.out.mono ?_
  rintro e w1 ⟨b, rfl, hi, hb1⟩
  have bx := BX.out.below hb1 (by simp)
  have p0 := bx.c0; have p1 := bx.c1
  have W1 := Lib.hid (HB0.out.trans (hb1.mono HB0.out.size))
  have HI := Lib.hid hi
  clear bx hb1 hi
  cases b with
  | false =>
    go_wp2_with fail
    go_ret
    exact ⟨false, rfl, (fun h => by cases h), W1.out⟩
  | true =>
    have GD := Lib.hid (HI.out rfl)
    by_cases hk3 : k0 = 3
    · by_cases hlo : -2 * m ≤ h0
      · by_cases hhi : h0 ≤ 2 * m
        · go_wp2_with fail
          go_ret
          exact ⟨true, by simp, (fun _ => by first | exact ⟨GD.out.1, GD.out.2, hk3, hlo, hhi⟩ | exact GD.out), W1.out⟩
        · go_wp2_with fail
          go_ret
          exact ⟨false, by simp; omega, (fun h => by cases h), W1.out⟩
      · go_wp2_with fail
        go_ret
        exact ⟨false, rfl, (fun h => by cases h), W1.out⟩
    · go_wp2_with fail
      go_ret
      exact ⟨false, rfl, (fun h => by cases h), W1.out⟩

theorem whole_any {B : Nat} {t : T} {c : VC} (m : Int) {w : World} (hm : 0 ≤ m ∧ m ≤ 16777216) (hR : TR w B t c) (hB : B ≤ w.heap.size) (h40 : LB ≤ B) (hT : Tabs w) :
    Calls Tryz.prog 5 #[c.val, .int .i64 m] w (YesMeans (∃ n, VR w (· < B) (.num (2 * n)) c ∧ -m ≤ n ∧ n ≤ m) w) := by
  have hb0 : Below w.heap.size w (w.alloc (.cells c.arr 26)) := (Below.refl _ _).alloc (Nat.le_refl _) _
  have F := Lib.hid (num_any m hm (hR.go (hb0.mono hB) (Nat.le_refl _)) (by simp; omega) h40 (hT.below (hb0.mono hB) h40))
  have BX := Lib.hid (box_alloc w c)
  have yes : Good t ∧ t.n ≤ 400 ∧ t.k = 3 ∧ -2 * m ≤ t.h ∧ t.h ≤ 2 * m → t.h % 2 = 0 → ∃ n, VR w (· < B) (.num (2 * n)) c ∧ -m ≤ n ∧ n ≤ m := by
    rintro ⟨hg, hn, hk, h1, h2⟩ he
    refine ⟨t.h / 2, ?_, by omega, by omega⟩
    have := VR.of hg hR
    have ej : t.j = .num t.h := by rw [T.j_eq]; simp [hk]
    rw [ej] at this
    rwa [show 2 * (t.h / 2) = t.h by omega]
  have Y := Lib.hid yes
  have hh : c.h = t.h := by rw [TR] at hR; exact hR.1.h
  have HB0 := Lib.hid hb0
  clear hb0 hR hT yes
  obtain ⟨k0, h0, s0, la, ll, lc, ka, kl, kc, va, vl, vc⟩ := c
  simp only at hh
  rw [← hh] at Y F
  clear hh
  unfold VC.val
  unfold VC.val at F
  unfold VC.arr at *
  go_enter Tryz.func5, Tryz.ntmps5
  go_wp2_with fail
  refine F.out.mono ?_
  rintro e w1 ⟨b, rfl, hi, hb1⟩
  have bx := BX.out.below hb1 (by simp)
  have p1 := bx.c1
  have W1 := Lib.hid (HB0.out.trans (hb1.mono HB0.out.size))
  have HI := Lib.hid hi
  clear bx hb1 hi
  cases b with
  | false =>
    go_wp2_with fail
    go_ret
    exact ⟨false, rfl, (fun h => by cases h), W1.out⟩
  | true =>
    have GD := Lib.hid (HI.out rfl)
    by_cases he : h0.tmod 2 = 0
    · go_wp2_with fail
      go_ret
      exact ⟨true, by simp, (fun _ => Y.out GD.out (by have := Int.tmod_add_mul_tdiv h0 2; omega)), W1.out⟩
    · go_wp2_with fail
      go_ret
      exact ⟨false, by simpa using he, (fun h => by cases h), W1.out⟩

theorem given_value (j : J) (a c : VC) (w : World) (S : Nat → Prop) (hj : JOK j) (ha : VR w S j a) (hc : VR w S j c) (hS : ∀ b, S b → b < w.heap.size) :
    Calls Tryz.prog 7 #[resVal a 0, c.val] w (TruePost w) := by
  have hb : ∀ o o', Below w.heap.size w ((w.alloc o).alloc o') := fun o o' => ((Below.refl _ _).alloc (Nat.le_refl _) _).alloc (by simp) _
  have H := Lib.hid fun o o' => (told_value j a c ((w.alloc o).alloc o') S hj (ha.go (fun b h => (hb o o').block b (hS b h)) (fun _ h => h)) (hc.go (fun b h => (hb o o').block b (hS b h)) (fun _ h => h)) (fun b h => by have := hS b h; simp; omega))
  have HB := Lib.hid hb
  clear hb ha hc hj
  obtain ⟨k0, h0, s0, la, ll, lc, ka, kl, kc, va, vl, vc⟩ := a
  obtain ⟨k0', h0', s0', la', ll', lc', ka', kl', kc', va', vl', vc'⟩ := c
  unfold resVal at *
  unfold VC.val VC.arr at *
  go_enter Tryz.func7, Tryz.ntmps7
  go_wp2_with fail
  refine (H.out _ _).mono ?_
  rintro e w1 ⟨rfl, hb1⟩
  have HB1 := Lib.hid ((HB.out _ _).trans (hb1.mono (HB.out _ _).size))
  clear hb1
  go_wp2_with fail
  go_ret
  exact ⟨rfl, HB1.out⟩
end Go.Proofs.YtneglhpbmlohlaaGreatDoor
