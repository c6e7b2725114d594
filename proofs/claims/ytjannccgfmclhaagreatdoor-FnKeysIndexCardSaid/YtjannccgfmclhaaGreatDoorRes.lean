/- impl.result of an error and of a bool, and what a door gives. -/
import Derived.Test.YtjannccgfmclhaaGreatDoorOut
namespace Go.Proofs.YtjannccgfmclhaaGreatDoor
open Go.RowKit

def VC.nil : VC := ⟨0, 0, ByteArray.empty, none, 0, 0, none, 0, 0, none, 0, 0⟩

theorem fromGo_bool (b : Bool) (w : World) : Calls Tryz.prog 27 #[.iface 4 (.bool b)] w fun e w' => e = .returned (.tuple #[VC.val {VC.nil with k := if b then 2 else 1}, .bool true]) ∧ Below w.heap.size w w' := by
  cases b
  all_goals
    unfold VC.val VC.arr VC.nil
    go_enter Tryz.func27, Tryz.ntmps27
    go_wp2_with fail
    exact bodyPost_ret (v := .tuple #[.agg #[.int .i64 _, .int .i64 0, .string ByteArray.empty, .slice none 0 0, .slice none 0 0, .slice none 0 0], .bool true]) (by simp [results, Tryz.results27, go_sem]; rfl) rfl ⟨rfl, (Below.refl _ _).alloc (Nat.le_refl _) _⟩

/-- An impl.Res: a value and how it ended. -/
def resVal (c : VC) (e : Int) : Value := .agg #[.int .i64 c.k, .int .i64 c.h, .string c.s, .slice c.la c.ll c.lc, .slice c.ka c.kl c.kc, .slice c.va c.vl c.vc, .int .i64 e]

theorem result_err (v : Value) (w : World) (hv : IsErr v) : Calls Tryz.prog 17 #[v] w fun e w' => e = .returned (resVal VC.nil 1) ∧ Below w.heap.size w w' := by
  obtain ⟨t, u, rfl, hrun⟩ := hv
  unfold resVal VC.nil
  go_enter Tryz.func17, Tryz.ntmps17
  go_wp2_with fail
  exact bodyPost_ret (v := .agg #[.int .i64 0, .int .i64 0, .string ByteArray.empty, .slice none 0 0, .slice none 0 0, .slice none 0 0, .int .i64 1]) (by simp [results, Tryz.results17, go_sem]; rfl) rfl ⟨rfl, (Below.refl _ _).alloc (Nat.le_refl _) _⟩
/-- The cells of an impl.Res at block N. -/
def ResBox (w : World) (N : Nat) (c : VC) (e : Int) : Prop := w.heap[N]? = some (.cells #[.int .i64 c.k, .int .i64 c.h, .string c.s, .slice c.la c.ll c.lc, .slice c.ka c.kl c.kc, .slice c.va c.vl c.vc, .int .i64 e] 30 (0, 0))
section
variable {w : World} {N : Nat} {c : VC} {e : Int}
theorem ResBox.c0 (h : ResBox w N c e) : w.cell? ⟨N, 0, none⟩ = some (.int .i64 c.k) := by simp [World.cell?, show w.heap[N]? = _ from h]
theorem ResBox.c1 (h : ResBox w N c e) : w.cell? ⟨N, 1, none⟩ = some (.int .i64 c.h) := by simp [World.cell?, show w.heap[N]? = _ from h]
theorem ResBox.c2 (h : ResBox w N c e) : w.cell? ⟨N, 2, none⟩ = some (.string c.s) := by simp [World.cell?, show w.heap[N]? = _ from h]
theorem ResBox.c3 (h : ResBox w N c e) : w.cell? ⟨N, 3, none⟩ = some (.slice c.la c.ll c.lc) := by simp [World.cell?, show w.heap[N]? = _ from h]
theorem ResBox.c4 (h : ResBox w N c e) : w.cell? ⟨N, 4, none⟩ = some (.slice c.ka c.kl c.kc) := by simp [World.cell?, show w.heap[N]? = _ from h]
theorem ResBox.c5 (h : ResBox w N c e) : w.cell? ⟨N, 5, none⟩ = some (.slice c.va c.vl c.vc) := by simp [World.cell?, show w.heap[N]? = _ from h]
theorem ResBox.c6 (h : ResBox w N c e) : w.cell? ⟨N, 6, none⟩ = some (.int .i64 e) := by simp [World.cell?, show w.heap[N]? = _ from h]
theorem ResBox.fr (h : ResBox w N c e) (o : Nat) : w.frozen? ⟨N, o, none⟩ = false := by simp [World.frozen?, show w.heap[N]? = _ from h]
theorem ResBox.lt (h : ResBox w N c e) : N < w.heap.size := by
  rcases Nat.lt_or_ge N w.heap.size with h' | h'
  · exact h'
  · rw [ResBox, Array.getElem?_eq_none h'] at h; cases h
theorem ResBox.below {w' : World} {B : Nat} (h : ResBox w N c e) (hg : Below B w w') (hlt : N < B) : ResBox w' N c e := (hg.block N hlt).trans h
end
theorem resbox_alloc (w : World) (c : VC) (e : Int) : ResBox (w.alloc (.cells #[.int .i64 c.k, .int .i64 c.h, .string c.s, .slice c.la c.ll c.lc, .slice c.ka c.kl c.kc, .slice c.va c.vl c.vc, .int .i64 e] 30)) w.heap.size c e := heap_alloc_at _ _

/-- The cells of a Res, stored one by one. -/
def resStored (w : World) (N : Nat) (c : VC) (e : Int) : World :=
  ((((((w.setCell ⟨N, 0, none⟩ (.int .i64 c.k)).setCell ⟨N, 1, none⟩ (.int .i64 c.h)).setCell ⟨N, 2, none⟩ (.string c.s)).setCell ⟨N, 3, none⟩ (.slice c.la c.ll c.lc)).setCell ⟨N, 4, none⟩ (.slice c.ka c.kl c.kc)).setCell ⟨N, 5, none⟩ (.slice c.va c.vl c.vc)).setCell ⟨N, 6, none⟩ (.int .i64 e)
theorem resStored_below {B N : Nat} {a w : World} {c : VC} {e : Int} (h : Below B a w) (hB : B ≤ N) : Below B a (resStored w N c e) :=
  ((((((h.setCell hB _).setCell hB _).setCell hB _).setCell hB _).setCell hB _).setCell hB _).setCell hB _
theorem resStored_block {N : Nat} {w : World} {c : VC} {e : Int} {b : Nat} (hb : b ≠ N) : (resStored w N c e).heap[b]? = w.heap[b]? := by
  unfold resStored
  rw [Below.heap_setCell _ _ _ _ hb, Below.heap_setCell _ _ _ _ hb, Below.heap_setCell _ _ _ _ hb, Below.heap_setCell _ _ _ _ hb, Below.heap_setCell _ _ _ _ hb, Below.heap_setCell _ _ _ _ hb, Below.heap_setCell _ _ _ _ hb]
theorem resStored_size {N : Nat} {w : World} {c : VC} {e : Int} : (resStored w N c e).heap.size = w.heap.size := by simp [resStored]

theorem result_bool (b : Bool) (w : World) : Calls Tryz.prog 17 #[.iface 4 (.bool b)] w fun e w' => e = .returned (resVal {VC.nil with k := if b then 2 else 1} 0) ∧ Below w.heap.size w w' := by
  have F := fromGo_bool b
  have FF := Lib.hid F
  have RB := Lib.hid (resbox_alloc w VC.nil 0)
  clear F
  cases b
  all_goals
    unfold resVal VC.nil
    unfold VC.val VC.arr VC.nil at FF
    unfold VC.nil at RB
    simp only [if_false, Bool.false_eq_true] at FF ⊢
    go_enter Tryz.func17, Tryz.ntmps17
    go_wp2_with fail
    refine (FF.out _).mono ?_
    rintro e w' ⟨rfl, hb⟩
    have rb := RB.out.below hb (by simp)
    have q0 := rb.c0; have q1 := rb.c1; have q2 := rb.c2; have q3 := rb.c3; have q4 := rb.c4; have q5 := rb.c5; have q6 := rb.c6; have qf := rb.fr
    have lt := rb.lt
    have HB := Lib.hid hb
    clear rb hb
    go_wp2_with fail
    refine bodyPost_ret (v := .agg #[.int .i64 _, .int .i64 0, .string ByteArray.empty, .slice none 0 0, .slice none 0 0, .slice none 0 0, .int .i64 0]) (by simp [results, Tryz.results17, go_sem, q0, q1, q2, q3, q4, q5, q6, lt]) rfl ⟨rfl, ?_⟩
    have hb0 : Below w.heap.size w w' := ((Below.refl w.heap.size w).alloc (Nat.le_refl _) _).trans (HB.out.mono (by simp))
    exact (((((((hb0.setCell (Nat.le_refl _) _).setCell (Nat.le_refl _) _).setCell (Nat.le_refl _) _).setCell (Nat.le_refl _) _).setCell (Nat.le_refl _) _).setCell (Nat.le_refl _) _).setCell (Nat.le_refl _) _).alloc (by simp only [World.size_setCell]; omega) _
/-- The value of a bool. -/
theorem VR.bool (w : World) (S : Nat → Prop) (b : Bool) : VR w S (.bool b) {VC.nil with k := if b then 2 else 1} := by
  rw [VR]
  refine ⟨⟨by cases b <;> rfl, rfl, rfl, rfl, rfl, rfl⟩, fun i hi => ?_, fun i hi => ?_, fun i hi => ?_⟩
  · simp [J.list] at hi
  · simp [J.ents] at hi
  · simp [J.ents] at hi

/-- What a door of the harness gives. -/
def DoorOut (w : World) (o : Out) (e : Ending) (w' : World) : Prop :=
  match o with
  | .silent => True
  | .raises => ∃ c, e = .returned (resVal c 1) ∧ Below w.heap.size w w'
  | .value j => ∃ c, e = .returned (resVal c 0) ∧ VR w' (New w.heap.size w') j c ∧ Below w.heap.size w w'

theorem result_has (o : Out) (ho : o = .raises ∨ ∃ b, o = .value (.bool b)) {w w1 : World} {e : Ending} (h : GOut w o e w1) :
    ∃ v, e = .returned v ∧ Below w.heap.size w w1 ∧ Calls Tryz.prog 17 #[v] w1 fun e w' => ∃ c, e = .returned (resVal c o.how) ∧ (∀ j, o = .value j → VR w' (New w1.heap.size w') j c) ∧ Below w1.heap.size w1 w' := by
  rcases ho with rfl | ⟨b, rfl⟩
  · obtain ⟨v, rfl, hv, hb⟩ := h
    refine ⟨_, rfl, hb, (result_err v w1 hv).mono ?_⟩
    rintro e w' ⟨rfl, hb1⟩
    exact ⟨_, rfl, (fun j hj => by cases hj), hb1⟩
  · obtain ⟨v, rfl, hG, hb⟩ := h
    rw [j_bool] at hG
    have := hG.head; cases this
    refine ⟨_, rfl, hb, (result_bool b w1).mono ?_⟩
    rintro e w' ⟨rfl, hb1⟩
    exact ⟨_, rfl, (fun j hj => by cases hj; exact VR.bool _ _ _), hb1⟩

end Go.Proofs.YtjannccgfmclhaaGreatDoor
