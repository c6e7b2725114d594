/- Integers through the package: fromGo, result, the product and the sum. -/
import Derived.Test.YtneglhpbmlohlaaGreatDoorRes
namespace Go.Proofs.YtneglhpbmlohlaaGreatDoor
open Go.RowKit

/-- The cells of a number that is twice h/2. -/
def numVC (h : Int) : VC := {VC.nil with k := 3, h := h}

theorem VR.num (w : World) (S : Nat → Prop) (h : Int) : VR w S (.num h) (numVC h) := by
  rw [VR]
  refine ⟨⟨rfl, rfl, rfl, rfl, rfl, rfl⟩, fun i hi => ?_, fun i hi => ?_, fun i hi => ?_⟩
  · simp [J.list] at hi
  · simp [J.ents] at hi
  · simp [J.ents] at hi

theorem fromGo_int (n : Int) (w : World) (h1 : -4611686018427387904 ≤ n) (h2 : n ≤ 4611686018427387903) :
    Calls Tryz.prog 19 #[.iface 3 (.int .i64 n)] w fun e w' => e = .returned (.tuple #[VC.val (numVC (2 * n)), .bool true]) ∧ Below w.heap.size w w' := by
  unfold numVC VC.val VC.arr VC.nil
  go_enter Tryz.func19, Tryz.ntmps19
  go_wp2_with fail
  all_goals
    exact bodyPost_ret (v := .tuple #[.agg #[.int .i64 3, .int .i64 (2 * n), .string ByteArray.empty, .slice none 0 0, .slice none 0 0, .slice none 0 0], .bool true]) (by simp [results, Tryz.results19, go_sem]; rfl) rfl ⟨rfl, (Below.refl _ _).alloc (Nat.le_refl _) _⟩

theorem result_int (n : Int) (w : World) (h1 : -4611686018427387904 ≤ n) (h2 : n ≤ 4611686018427387903) :
    Calls Tryz.prog 12 #[.iface 3 (.int .i64 n)] w fun e w' => e = .returned (resVal (numVC (2 * n)) 0) ∧ Below w.heap.size w w' := by
  have F := fun w => fromGo_int n w h1 h2
  have FF := Lib.hid F
  have RB := Lib.hid (resbox_alloc w VC.nil 0)
  clear F h1 h2
  unfold numVC at FF ⊢
  unfold resVal VC.nil
  unfold VC.val VC.arr VC.nil at FF
  unfold VC.nil at RB
  go_enter Tryz.func12, Tryz.ntmps12
  go_wp2_with fail
  refine (FF.out _).mono ?_
  rintro e w' ⟨rfl, hb⟩
  have rb := RB.out.below hb (by simp)
  have q0 := rb.c0; have q1 := rb.c1; have q2 := rb.c2; have q3 := rb.c3; have q4 := rb.c4; have q5 := rb.c5; have q6 := rb.c6; have qf := rb.fr
  have lt := rb.lt
  have HB := Lib.hid hb
  clear rb hb
  go_wp2_with fail
  refine bodyPost_ret (v := .agg #[.int .i64 3, .int .i64 (2 * n), .string ByteArray.empty, .slice none 0 0, .slice none 0 0, .slice none 0 0, .int .i64 0]) (by simp [results, Tryz.results12, go_sem, q0, q1, q2, q3, q4, q5, q6, lt]) rfl ⟨rfl, ?_⟩
  have hb0 : Below w.heap.size w w' := ((Below.refl w.heap.size w).alloc (Nat.le_refl _) _).trans (HB.out.mono (by simp))
  exact (((((((hb0.setCell (Nat.le_refl _) _).setCell (Nat.le_refl _) _).setCell (Nat.le_refl _) _).setCell (Nat.le_refl _) _).setCell (Nat.le_refl _) _).setCell (Nat.le_refl _) _).setCell (Nat.le_refl _) _).alloc (by simp only [World.size_setCell]; omega) _

theorem mul_back {a b : Int} (hb : ¬ b = 0) : (a * b).tdiv b = a := Int.mul_tdiv_cancel a hb

theorem mul1_int (a b : Int) (w : World) (ha : -9007199254740992 ≤ a ∧ a ≤ 9007199254740992) (hab : -9007199254740992 ≤ a * b ∧ a * b ≤ 9007199254740992) (hb : -9007199254740992 ≤ b ∧ b ≤ 9007199254740992) :
    Calls Tryz.prog 28 #[.int .i64 a, .int .i64 b] w fun e w' => e = .returned (.iface 3 (.int .i64 (a * b))) ∧ w = w' := by
  have neg : Calls Tryz.prog 29 #[.int .i64 a] w fun e w' => e = .returned (.iface 3 (.int .i64 (-a))) ∧ w = w' := by
    clear hab hb
    go_enter Tryz.func29, Tryz.ntmps29
    go_wp2_with fail
    go_ret
    exact ⟨rfl, rfl⟩
  by_cases h1 : b = -1
  · subst h1
    have e : a * -1 = -a := by omega
    rw [e]
    have N := Lib.hid neg
    clear neg hab hb e ha
    go_enter Tryz.func28, Tryz.ntmps28
    go_wp2_with fail
    refine N.out.mono ?_
    rintro e w' ⟨rfl, rfl⟩
    go_wp2_with fail
    go_ret
    exact ⟨rfl, rfl⟩
  · by_cases h0 : b = 0
    · subst h0
      rw [Int.mul_zero]
      clear neg hab hb ha
      go_enter Tryz.func28, Tryz.ntmps28
      go_wp2_with fail
      go_ret
      exact ⟨by simp, rfl⟩
    · have hq := mul_back (a := a) h0
      have e1 : wrap64 (a * b) = a * b := by unfold wrap64; omega
      have e3 : wrap64 a = a := by unfold wrap64; omega
      clear neg hab hb ha
      go_enter Tryz.func28, Tryz.ntmps28
      go_wp2_with (simp only [e1, e3])
      all_goals
        go_ret
        exact ⟨by simp, rfl⟩

theorem add1_int (a b : Int) (w : World) (ha : -9007199254740992 ≤ a ∧ a ≤ 9007199254740992) (hb : -9007199254740992 ≤ b ∧ b ≤ 9007199254740992) :
    Calls Tryz.prog 41 #[.int .i64 a, .int .i64 b] w fun e w' => e = .returned (.iface 3 (.int .i64 (a + b))) ∧ w = w' := by
  have e1 : wrap64 (a + b) = a + b := by unfold wrap64; omega
  have e2 : decide (a + b ≥ a) = decide (b ≥ 0) := by rw [Bool.eq_iff_iff]; simp only [decide_eq_true_eq]; omega
  by_cases h0 : 0 ≤ b
  · have h2 : a ≤ a + b := by omega
    clear ha hb e2
    go_enter Tryz.func41, Tryz.ntmps41
    go_wp2_with (simp only [e1])
    all_goals
      go_ret
      exact ⟨by simp, rfl⟩
  · have h2 : ¬ a ≤ a + b := by omega
    clear ha hb e2
    go_enter Tryz.func41, Tryz.ntmps41
    go_wp2_with (simp only [e1])
    all_goals
      go_ret
      exact ⟨by simp, rfl⟩

set_option maxRecDepth 100000 in
theorem binop_mul (a b : Int) (f3 f4 f5 f6 f7 f8 : Value) (w : World) (ha : -9007199254740992 ≤ a ∧ a ≤ 9007199254740992) (hab : -9007199254740992 ≤ a * b ∧ a * b ≤ 9007199254740992) (hb : -9007199254740992 ≤ b ∧ b ≤ 9007199254740992) :
    Calls Tryz.prog 27 #[.iface 3 (.int .i64 a), .iface 3 (.int .i64 b), .func (.func 28) #[] #[], f3, f4, f5, f6, f7, f8] w fun e w' => e = .returned (.iface 3 (.int .i64 (a * b))) ∧ w = w' := by
  have M := Lib.hid (mul1_int a b w ha hab hb)
  clear ha hb hab
  go_enter Tryz.func27, Tryz.ntmps27
  go_wp2_with fail
  refine M.out.mono ?_
  rintro e w' ⟨rfl, rfl⟩
  go_wp2_with fail
  go_ret
  exact ⟨rfl, rfl⟩
theorem funcOpMul_int (a b : Int) (w : World) (ha : -9007199254740992 ≤ a ∧ a ≤ 9007199254740992) (hab : -9007199254740992 ≤ a * b ∧ a * b ≤ 9007199254740992) (hb : -9007199254740992 ≤ b ∧ b ≤ 9007199254740992) :
    Calls Tryz.prog 20 #[.nilIface, .iface 3 (.int .i64 a), .iface 3 (.int .i64 b)] w fun e w' => e = .returned (.iface 3 (.int .i64 (a * b))) ∧ w = w' := by
  have M := Lib.hid fun f3 f4 f5 f6 f7 f8 => binop_mul a b f3 f4 f5 f6 f7 f8 w ha hab hb
  clear ha hb hab
  go_enter Tryz.func20, Tryz.ntmps20
  go_wp2_with fail
  refine (M.out _ _ _ _ _ _).mono ?_
  rintro e w' ⟨rfl, rfl⟩
  go_wp2_with fail
  go_ret
  exact ⟨rfl, rfl⟩
theorem ZzOpMul_int (a b : Int) (w : World) (ha : -9007199254740992 ≤ a ∧ a ≤ 9007199254740992) (hab : -9007199254740992 ≤ a * b ∧ a * b ≤ 9007199254740992) (hb : -9007199254740992 ≤ b ∧ b ≤ 9007199254740992) :
    Calls Tryz.prog 13 #[.iface 3 (.int .i64 a), .iface 3 (.int .i64 b)] w fun e w' => e = .returned (.iface 3 (.int .i64 (a * b))) ∧ w = w' := by
  have M := Lib.hid (funcOpMul_int a b w ha hab hb)
  clear ha hb hab
  go_enter Tryz.func13, Tryz.ntmps13
  go_wp2_with fail
  refine M.out.mono ?_
  rintro e w' ⟨rfl, rfl⟩
  go_wp2_with fail
  go_ret
  exact ⟨rfl, rfl⟩
set_option maxRecDepth 100000 in
theorem binop_add (a b : Int) (f3 f4 f5 f6 f7 f8 : Value) (w : World) (ha : -9007199254740992 ≤ a ∧ a ≤ 9007199254740992) (hb : -9007199254740992 ≤ b ∧ b ≤ 9007199254740992) :
    Calls Tryz.prog 27 #[.iface 3 (.int .i64 a), .iface 3 (.int .i64 b), .func (.func 41) #[] #[], f3, f4, f5, f6, f7, f8] w fun e w' => e = .returned (.iface 3 (.int .i64 (a + b))) ∧ w = w' := by
  have M := Lib.hid (add1_int a b w ha hb)
  clear ha hb
  go_enter Tryz.func27, Tryz.ntmps27
  go_wp2_with fail
  refine M.out.mono ?_
  rintro e w' ⟨rfl, rfl⟩
  go_wp2_with fail
  go_ret
  exact ⟨rfl, rfl⟩
theorem funcOpAdd_int (a b : Int) (w : World) (ha : -9007199254740992 ≤ a ∧ a ≤ 9007199254740992) (hb : -9007199254740992 ≤ b ∧ b ≤ 9007199254740992) :
    Calls Tryz.prog 22 #[.nilIface, .iface 3 (.int .i64 a), .iface 3 (.int .i64 b)] w fun e w' => e = .returned (.iface 3 (.int .i64 (a + b))) ∧ w = w' := by
  have M := Lib.hid fun f3 f4 f5 f6 f7 f8 => binop_add a b f3 f4 f5 f6 f7 f8 w ha hb
  clear ha hb
  go_enter Tryz.func22, Tryz.ntmps22
  go_wp2_with fail
  refine (M.out _ _ _ _ _ _).mono ?_
  rintro e w' ⟨rfl, rfl⟩
  go_wp2_with fail
  go_ret
  exact ⟨rfl, rfl⟩
theorem ZzOpAdd_int (a b : Int) (w : World) (ha : -9007199254740992 ≤ a ∧ a ≤ 9007199254740992) (hb : -9007199254740992 ≤ b ∧ b ≤ 9007199254740992) :
    Calls Tryz.prog 15 #[.iface 3 (.int .i64 a), .iface 3 (.int .i64 b)] w fun e w' => e = .returned (.iface 3 (.int .i64 (a + b))) ∧ w = w' := by
  have M := Lib.hid (funcOpAdd_int a b w ha hb)
  clear ha hb
  go_enter Tryz.func15, Tryz.ntmps15
  go_wp2_with fail
  refine M.out.mono ?_
  rintro e w' ⟨rfl, rfl⟩
  go_wp2_with fail
  go_ret
  exact ⟨rfl, rfl⟩
end Go.Proofs.YtneglhpbmlohlaaGreatDoor
