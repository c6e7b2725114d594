/- spec.Same of two readings of one right JSON value, and laws.told of an outcome that is as it should be. -/
import Derived.Test.YtjannccgfmclhaaGreatDoorRes
import Derived.Test.YtjannccgfmclhaaGreatDoorCmpAll
namespace Go.Proofs.YtjannccgfmclhaaGreatDoor
open Go.RowKit

/-- A value that is the same is told so. -/
def TruePost (w : World) (e : Ending) (w' : World) : Prop := e = .returned (.bool true) ∧ Below w.heap.size w w'

theorem Same_refl (j : J) (a c : VC) (w : World) (S : Nat → Prop) (hj : JOK j) (ha : VR w S j a) (hc : VR w S j c) (hS : ∀ b, S b → b < w.heap.size) :
    Calls Tryz.prog 31 #[a.val, c.val] w (TruePost w) := by
  have hb : Below w.heap.size w ((w.alloc (.cells a.arr 26)).alloc (.cells c.arr 26)) := ((Below.refl _ _).alloc (Nat.le_refl _) _).alloc (by simp) _
  have H := Lib.hid (Cmp_refl (SizeOf.sizeOf j) j a c ((w.alloc (.cells a.arr 26)).alloc (.cells c.arr 26)) S (Nat.le_refl _) hj (ha.go (fun b h => hb.block b (hS b h)) (fun _ h => h)) (hc.go (fun b h => hb.block b (hS b h)) (fun _ h => h)) (fun b h => by have := hS b h; simp; omega))
  have HB := Lib.hid hb
  clear hb ha hc hj
  obtain ⟨k0, h0, s0, la, ll, lc, ka, kl, kc, va, vl, vc⟩ := a
  obtain ⟨k0', h0', s0', la', ll', lc', ka', kl', kc', va', vl', vc'⟩ := c
  unfold VC.val VC.arr at *
  go_enter Tryz.func31, Tryz.ntmps31
  go_wp2_with fail
  refine H.out.mono ?_
  rintro e w1 ⟨rfl, hb1⟩
  have HB1 := Lib.hid (HB.out.trans (hb1.mono HB.out.size))
  clear hb1
  go_wp2_with fail
  go_ret
  exact ⟨rfl, HB1.out⟩

theorem told_raises (c o : VC) (w : World) : Calls Tryz.prog 21 #[resVal c 1, o.val, .int .i64 1] w (TruePost w) := by
  obtain ⟨k0, h0, s0, la, ll, lc, ka, kl, kc, va, vl, vc⟩ := c
  obtain ⟨k0', h0', s0', la', ll', lc', ka', kl', kc', va', vl', vc'⟩ := o
  unfold VC.val VC.arr resVal
  go_enter Tryz.func21, Tryz.ntmps21
  go_wp2_with fail
  go_ret
  exact ⟨rfl, ((Below.refl _ _).alloc (Nat.le_refl _) _).alloc (by simp) _⟩

theorem told_silent (c o : VC) (e : Int) (w : World) : Calls Tryz.prog 21 #[resVal c e, o.val, .int .i64 2] w (TruePost w) := by
  obtain ⟨k0, h0, s0, la, ll, lc, ka, kl, kc, va, vl, vc⟩ := c
  obtain ⟨k0', h0', s0', la', ll', lc', ka', kl', kc', va', vl', vc'⟩ := o
  unfold VC.val VC.arr resVal
  go_enter Tryz.func21, Tryz.ntmps21
  go_wp2_with fail
  go_ret
  exact ⟨rfl, ((Below.refl _ _).alloc (Nat.le_refl _) _).alloc (by simp) _⟩

theorem told_value (j : J) (a c : VC) (w : World) (S : Nat → Prop) (hj : JOK j) (ha : VR w S j a) (hc : VR w S j c) (hS : ∀ b, S b → b < w.heap.size) :
    Calls Tryz.prog 21 #[resVal a 0, c.val, .int .i64 0] w (TruePost w) := by
  have hb : ∀ o o', Below w.heap.size w ((w.alloc o).alloc o') := fun o o' => ((Below.refl _ _).alloc (Nat.le_refl _) _).alloc (by simp) _
  have H := Lib.hid fun o o' => (Same_refl j a c ((w.alloc o).alloc o') S hj (ha.go (fun b h => (hb o o').block b (hS b h)) (fun _ h => h)) (hc.go (fun b h => (hb o o').block b (hS b h)) (fun _ h => h)) (fun b h => by have := hS b h; simp; omega))
  have HB := Lib.hid hb
  clear hb ha hc hj
  obtain ⟨k0, h0, s0, la, ll, lc, ka, kl, kc, va, vl, vc⟩ := a
  obtain ⟨k0', h0', s0', la', ll', lc', ka', kl', kc', va', vl', vc'⟩ := c
  unfold resVal
  unfold VC.val VC.arr at *
  go_enter Tryz.func21, Tryz.ntmps21
  go_wp2_with fail
  refine (H.out _ _).mono ?_
  rintro e w1 ⟨rfl, hb1⟩
  have HB1 := Lib.hid ((HB.out _ _).trans (hb1.mono (HB.out _ _).size))
  clear hb1
  go_wp2_with fail
  go_ret
  exact ⟨rfl, HB1.out⟩
end Go.Proofs.YtjannccgfmclhaaGreatDoor

namespace Go.Proofs.YtjannccgfmclhaaGreatDoor
open Go.RowKit

theorem given_value (j : J) (a c : VC) (w : World) (S : Nat → Prop) (hj : JOK j) (ha : VR w S j a) (hc : VR w S j c) (hS : ∀ b, S b → b < w.heap.size) :
    Calls Tryz.prog 10 #[resVal a 0, c.val] w (TruePost w) := by
  have hb : ∀ o o', Below w.heap.size w ((w.alloc o).alloc o') := fun o o' => ((Below.refl _ _).alloc (Nat.le_refl _) _).alloc (by simp) _
  have H := Lib.hid fun o o' => (told_value j a c ((w.alloc o).alloc o') S hj (ha.go (fun b h => (hb o o').block b (hS b h)) (fun _ h => h)) (hc.go (fun b h => (hb o o').block b (hS b h)) (fun _ h => h)) (fun b h => by have := hS b h; simp; omega))
  have HB := Lib.hid hb
  clear hb ha hc hj
  obtain ⟨k0, h0, s0, la, ll, lc, ka, kl, kc, va, vl, vc⟩ := a
  obtain ⟨k0', h0', s0', la', ll', lc', ka', kl', kc', va', vl', vc'⟩ := c
  unfold resVal at *
  unfold VC.val VC.arr at *
  go_enter Tryz.func10, Tryz.ntmps10
  go_wp2_with fail
  refine (H.out _ _).mono ?_
  rintro e w1 ⟨rfl, hb1⟩
  have HB1 := Lib.hid ((HB.out _ _).trans (hb1.mono (HB.out _ _).size))
  clear hb1
  go_wp2_with fail
  go_ret
  exact ⟨rfl, HB1.out⟩
end Go.Proofs.YtjannccgfmclhaaGreatDoor
