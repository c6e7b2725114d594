/- spec.Bool, spec.Array and spec.Whole. -/
import Derived.Test.YtinmcopamjjlbaaGreatDoorTypes
import Derived.Test.YtinmcopamjjlbaaGreatDoorRes
namespace Go.Proofs.YtinmcopamjjlbaaGreatDoor
open Go.RowKit

theorem SBool_b (b : Bool) (w : World) : Calls Tryz.prog 11 #[.bool b] w fun e w' => e = .returned (VC.val {VC.nil with k := if b then 2 else 1}) ∧ Below w.heap.size w w' := by
  cases b
  all_goals
    unfold VC.val VC.arr VC.nil
    go_enter Tryz.func11, Tryz.ntmps11
    go_wp2_with fail
    exact bodyPost_ret (v := .agg #[.int .i64 _, .int .i64 0, .string ByteArray.empty, .slice none 0 0, .slice none 0 0, .slice none 0 0]) (by simp [results, Tryz.results11, go_sem]; rfl) rfl ⟨rfl, (Below.refl _ _).alloc (Nat.le_refl _) _⟩

theorem SBool_any (b : Bool) (w : World) : Calls Tryz.prog 11 #[.bool b] w fun e w' => ∃ k, k = (if b = true then 2 else 1) ∧ e = .returned (VC.val {VC.nil with k := k}) ∧ Below w.heap.size w w' :=
  (SBool_b b w).mono fun _ _ ⟨h, hb⟩ => ⟨_, rfl, h, hb⟩

theorem Array_any (a : Option Addr) (n cap : Nat) (w : World) : Calls Tryz.prog 16 #[.slice a n cap] w fun e w' => e = .returned (VC.val {VC.nil with k := 5, la := a, ll := n, lc := cap}) ∧ Below w.heap.size w w' := by
  unfold VC.val VC.arr VC.nil
  go_enter Tryz.func16, Tryz.ntmps16
  go_wp2_with fail
  exact bodyPost_ret (v := .agg #[.int .i64 5, .int .i64 0, .string ByteArray.empty, .slice a n cap, .slice none 0 0, .slice none 0 0]) (by simp [results, Tryz.results16, go_sem]; rfl) rfl ⟨rfl, (Below.refl _ _).alloc (Nat.le_refl _) _⟩

theorem Whole_num (h : Int) (c : VC) (w : World) (hk : c.k = 3) (hh : c.h = h) (h1 : -18014398509481984 ≤ h) (h2 : h ≤ 18014398509481984) :
    Calls Tryz.prog 42 #[c.val] w fun e w' => e = .returned (.tuple #[.int .i64 (if h % 2 = 0 then h / 2 else 0), .bool (decide (h % 2 = 0))]) ∧ Below w.heap.size w w' := by
  obtain ⟨k0, h0, s0, la, ll, lc, ka, kl, kc, va, vl, vc⟩ := c
  simp only at hk hh
  subst hk hh
  by_cases he : h0 % 2 = 0
  · have ht : h0.tmod 2 = 0 := by rw [Int.tmod_eq_emod]; split <;> omega
    have hd : h0.tdiv 2 = h0 / 2 := by rw [Int.tdiv_eq_ediv]; split <;> omega
    have HD := Lib.hid hd; have HE := Lib.hid he
    clear he hd
    unfold VC.val VC.arr
    go_enter Tryz.func42, Tryz.ntmps42
    go_wp2_with fail
    clear HE
    go_ret2
    exact ⟨by simp [HD.out], (Below.refl _ _).alloc (Nat.le_refl _) _⟩
  · have ht : ¬ h0.tmod 2 = 0 := by rw [Int.tmod_eq_emod]; split <;> omega
    have HE := Lib.hid he
    clear he
    unfold VC.val VC.arr
    go_enter Tryz.func42, Tryz.ntmps42
    go_wp2_with fail
    clear HE
    go_ret2
    exact ⟨by simp, (Below.refl _ _).alloc (Nat.le_refl _) _⟩
end Go.Proofs.YtinmcopamjjlbaaGreatDoor
