/- Numbers as Values; fromGo and result of integers. -/
import Derived.Test.YtjannccgfmclhaaGreatDoorRes
namespace Go.Proofs.YtjannccgfmclhaaGreatDoor
open Go.RowKit

/-- The cells of a number that is twice h/2. -/
def numVC (h : Int) : VC := {VC.nil with k := 3, h := h}

theorem VR.num (w : World) (S : Nat → Prop) (h : Int) : VR w S (.num h) (numVC h) := by
  rw [VR]
  refine ⟨⟨rfl, rfl, rfl, rfl, rfl, rfl⟩, fun i hi => ?_, fun i hi => ?_, fun i hi => ?_⟩
  · simp [J.list] at hi
  · simp [J.ents] at hi
  · simp [J.ents] at hi

theorem fromGo_int (n : Int) (w : World) (h1 : -4611686018427387904 ≤ n) (h2 : n ≤ 4611686018427387903) :
    Calls Tryz.prog 27 #[.iface 3 (.int .i64 n)] w fun e w' => e = .returned (.tuple #[VC.val (numVC (2 * n)), .bool true]) ∧ Below w.heap.size w w' := by
  unfold numVC VC.val VC.arr VC.nil
  go_enter Tryz.func27, Tryz.ntmps27
  go_wp2_with fail
  all_goals
    exact bodyPost_ret (v := .tuple #[.agg #[.int .i64 3, .int .i64 (2 * n), .string ByteArray.empty, .slice none 0 0, .slice none 0 0, .slice none 0 0], .bool true]) (by simp [results, Tryz.results27, go_sem]; rfl) rfl ⟨rfl, (Below.refl _ _).alloc (Nat.le_refl _) _⟩

theorem result_int (n : Int) (w : World) (h1 : -4611686018427387904 ≤ n) (h2 : n ≤ 4611686018427387903) :
    Calls Tryz.prog 17 #[.iface 3 (.int .i64 n)] w fun e w' => e = .returned (resVal (numVC (2 * n)) 0) ∧ Below w.heap.size w w' := by
  have F := fun w => fromGo_int n w h1 h2
  have FF := Lib.hid F
  have RB := Lib.hid (resbox_alloc w VC.nil 0)
  clear F h1 h2
  unfold numVC at FF ⊢
  unfold resVal VC.nil
  unfold VC.val VC.arr VC.nil at FF
  unfold VC.nil at RB
  go_enter Tryz.func17, Tryz.ntmps17
  go_wp2_with fail
  refine (FF.out _).mono ?_
  rintro e w' ⟨rfl, hb⟩
  have rb := RB.out.below hb (by simp)
  have q0 := rb.c0; have q1 := rb.c1; have q2 := rb.c2; have q3 := rb.c3; have q4 := rb.c4; have q5 := rb.c5; have q6 := rb.c6; have qf := rb.fr
  have lt := rb.lt
  have HB := Lib.hid hb
  clear rb hb
  go_wp2_with fail
  refine bodyPost_ret (v := .agg #[.int .i64 3, .int .i64 (2 * n), .string ByteArray.empty, .slice none 0 0, .slice none 0 0, .slice none 0 0, .int .i64 0]) (by simp [results, Tryz.results17, go_sem, q0, q1, q2, q3, q4, q5, q6, lt]) rfl ⟨rfl, ?_⟩
  have hb0 : Below w.heap.size w w' := ((Below.refl w.heap.size w).alloc (Nat.le_refl _) _).trans (HB.out.mono (by simp))
  exact (((((((hb0.setCell (Nat.le_refl _) _).setCell (Nat.le_refl _) _).setCell (Nat.le_refl _) _).setCell (Nat.le_refl _) _).setCell (Nat.le_refl _) _).setCell (Nat.le_refl _) _).setCell (Nat.le_refl _) _).alloc (by simp only [World.size_setCell]; omega) _

end Go.Proofs.YtjannccgfmclhaaGreatDoor
