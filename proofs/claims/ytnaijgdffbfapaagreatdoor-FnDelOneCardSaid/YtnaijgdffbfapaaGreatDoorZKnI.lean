/- A part of the proof. -/
import Derived.Test.YtnaijgdffbfapaaGreatDoorM17
import Derived.IntWalk
namespace Go.Proofs.YtnaijgdffbfapaaGreatDoor
open Go.RowKit
section
variable {news : List (Nat × Tmp)} {olds : List (Tmp × Value)} {it : Nat → Item} {w0 : World} {i : Nat} {o : Oper}
theorem step_eqlC {a c : Int} {e : Bool} (t t' : TypeId) (ht : t = 3 ∨ t = 22) (j : Nat) (x : Tmp) (hit : it i = .val none (isV (.bool e))) (he : decide (a = c) = e) (ho : o.op = .binOp .eql t (.tmp x) (.const (.int .i64 c)) t') (hlow : ∀ j M φ, it j = .val M φ → M = none) (hx : (j, x) ∈ news) (hix : it j = .val none (isV (.int .i64 a))) (hw : waitsB o j = true) : StepOK Tryz.prog news olds it w0 i o :=
  step_run1 j x hit hlow hx hix hw fun b w e1 _ _ => by
    have ec : b.eval (.const (.int .i64 c)) = .int .i64 c := rfl
    unfold execOp
    simp only [ho, e1, ec]
    rw [← he]
    rcases ht with rfl | rfl
    all_goals
      by_cases h : a = c
      · subst h; go_simp
      · go_simp
theorem step_eql {a c : Int} {e : Bool} (t t' : TypeId) (ht : t = 3 ∨ t = 22) (j k : Nat) (x y : Tmp) (hit : it i = .val none (isV (.bool e))) (he : decide (a = c) = e) (ho : o.op = .binOp .eql t (.tmp x) (.tmp y) t') (hlow : ∀ j M φ, it j = .val M φ → M = none) (hx : (j, x) ∈ news) (hix : it j = .val none (isV (.int .i64 a))) (hw : waitsB o j = true)
    (hy : (k, y) ∈ news) (hiy : it k = .val none (isV (.int .i64 c))) (hwy : waitsB o k = true) : StepOK Tryz.prog news olds it w0 i o :=
  step_run2 j k x y hit hlow hx hix hw hy hiy hwy fun b w e1 e2 _ _ => by
    unfold execOp
    simp only [ho, e1, e2]
    rw [← he]
    rcases ht with rfl | rfl
    all_goals
      by_cases h : a = c
      · subst h; go_simp
      · go_simp
/-- '&&': the test ahead was true. -/
theorem step_and {c : Bool} (j k : Nat) (x y : Tmp) (hit : it i = .val none (isV (.bool c))) (ho : o.op = .pick (.tmp x) (.tmp y) (.const (.bool false))) (hlow : ∀ j M φ, it j = .val M φ → M = none) (hx : (j, x) ∈ news) (hix : it j = .val none (isV (.bool true))) (hw : waitsB o j = true)
    (hy : (k, y) ∈ news) (hiy : it k = .val none (isV (.bool c))) (hwy : waitsB o k = true) : StepOK Tryz.prog news olds it w0 i o :=
  step_run2 j k x y hit hlow hx hix hw hy hiy hwy fun b w e e2 _ _ => by unfold execOp; simp only [ho, e, e2]; rfl
/-- A sum of two lengths. -/
theorem step_addN {a c s : Nat} (t t' : TypeId) (ht : t = 3) (hs : a + c = s) (hlt : s ≤ 1000000) (j k : Nat) (x y : Tmp) (hit : it i = .val none (isV (.int .i64 (s : Int)))) (ho : o.op = .binOp .add t (.tmp x) (.tmp y) t') (hlow : ∀ j M φ, it j = .val M φ → M = none) (hx : (j, x) ∈ news) (hix : it j = .val none (isV (.int .i64 (a : Int)))) (hw : waitsB o j = true)
    (hy : (k, y) ∈ news) (hiy : it k = .val none (isV (.int .i64 (c : Int)))) (hwy : waitsB o k = true) : StepOK Tryz.prog news olds it w0 i o :=
  step_run2 j k x y hit hlow hx hix hw hy hiy hwy fun b w e1 e2 _ _ => by
    unfold execOp
    simp only [ho, e1, e2]
    subst ht
    have h0 : (0 : Int) ≤ (a : Int) + (c : Int) := by omega
    have h1 : (a : Int) + (c : Int) ≤ 1000000 := by omega
    subst hs
    go_simp
    exact IntWalk.i64_in _ (by omega)
/-- An assignment of what another operation has given. -/
theorem step_assign1 {v : Value} (j : Nat) (x : Tmp) (hit : it i = .val none (isV v)) (ho : o.op = .assign (.tmp x)) (hlow : ∀ j M φ, it j = .val M φ → M = none) (hx : (j, x) ∈ news) (hix : it j = .val none (isV v)) (hw : waitsB o j = true) : StepOK Tryz.prog news olds it w0 i o :=
  step_run1 j x hit hlow hx hix hw fun b w e _ _ => by unfold execOp; simp only [ho, e]; rfl
/-- The length of a slice that lay in a slot is that of what has been moved. -/
theorem ResBox.at6 {w : World} {N : Nat} {c : VC} {e : Int} (h : ResBox w N c e) : At6 w N 0 c := ⟨h.c0, h.c1, h.c2, h.c3, h.c4, h.c5⟩
end
end Go.Proofs.YtnaijgdffbfapaaGreatDoor
