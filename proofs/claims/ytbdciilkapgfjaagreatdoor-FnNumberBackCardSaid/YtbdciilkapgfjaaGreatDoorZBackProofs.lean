/- A part of the proof. -/
import Derived.Test.YtbdciilkapgfjaaGreatDoorM45
import Derived.Test.YtbdciilkapgfjaaGreatDoorZLaidOf
import Derived.Test.YtbdciilkapgfjaaGreatDoorBackWit
import Derived.Carry
namespace Go.Proofs.YtbdciilkapgfjaaGreatDoor
open Go.RowKit Go.ChangeShapes Go.WideShapes Go.ChangeAt

theorem own : ownKnob Tryz.prog.godebug = none := by kernel_rfl
theorem laidOut : laidOutB Tryz.prog = true := by kernel_rfl

set_option maxRecDepth 100000 in
theorem fnNumberBack_lifted (os : Os) (started : os.Started) (H : Type) (enc : TypeId × Value → H) :
    ReturnsInHanded {} Tryz.checked os 3 .any (fun w args => (Rows.fnNumberBackSpec.pre enc Tryz.prog Tryz.f3 [] false w args ∧ laidMetH Tryz.prog Rows.fnNumberBackRow.laid w) ∧ sizedMet enc Tryz.prog Tryz.f3 (OpenSpec.ofChange Rows.fnNumberBackSpec) false w args)
      (Rows.fnNumberBackSpec.post enc Tryz.prog Tryz.f3 false true false false) := by
  refine returnsInHanded_of_change_and (C := Tryz.checked) (X := fun w _ => laidMetH Tryz.prog Rows.fnNumberBackRow.laid w) (fun _ _ _ hh h => h.of_heap hh) own started (by kernel_rfl) Tryz.func3
    (fnNumberBack_wit os H enc) ?_
  intro W base args ds gs before hval0 hW _ hsz hL _
  have hval : ∀ (j : Nat) t v, Tryz.f3.params[j]? = some t → args[j]? = some v → Value.okWide Tryz.prog W .any base t v := hval0
  have hW' := hW
  have hlt : ∀ x ∈ before, x.block < W.heap.size := fun x hx => by simpa using hW'.lt x hx
  obtain ⟨p, q, hA0, hV, rfl, _, _⟩ := hW
  have hA : DataW.TrodAll enc Tryz.prog W 0 (fun _ => true) true Tryz.f3.params.toList args.toList ds p := hA0
  rw [Tryz.params3] at hA hval
  obtain ⟨v0, d0, rfl, rfl, h0⟩ := trodAll_one hA
  obtain ⟨rfl, rfl⟩ := trodVars_none hV
  obtain ⟨x0, rfl⟩ := okWide_int Tryz.underlying3 (hval 0 3 v0 rfl rfl)
  simp only [List.append_nil] at hW' hlt
  have hsz' : (DataW.weightsEach Tryz.prog [3] [d0]).all (· ≤ reachBytes) = true := by
    have := hsz
    rw [Tryz.params3, show Rows.fnNumberBackSpec.plain.varTypes Tryz.checked.prog = [] from rfl, show Tryz.checked.prog = Tryz.prog from rfl] at this
    simpa using this
  simp only [DataW.weightsEach, List.append_nil, List.all_eq_true, decide_eq_true_eq] at hsz'
  obtain ⟨fuel0, t0⟩ := h0
  obtain ⟨_, e0, q0, wf0⟩ := DataW.trod_int Tryz.underlying3 t0
  cases e0
  cases q0
  rw [MakeChecks.laidMetH_plain _ _ _ (by kernel_rfl)] at hL
  refine (FnNumberBack_any x0 (laid_of hL)).mono fun e W' ⟨he, hb⟩ => ?_
  subst he
  have k0 : DataW.Trod enc Tryz.prog W 0 (fun _ => true) true 3 (.int .i64 x0) _ [] := ⟨fuel0, t0⟩
  exact ⟨_, rfl, _, _, _, [], _, [], hW', trodAll_mk1 (shut_bool Tryz.underlying4 _),
    trodAll_mk1 (Below.trod laidOut (by kernel_rfl) (of_decide_eq_true (by kernel_rfl)) k0 hb (fun x hx => absurd hx (by simp))),
    rfl, hb.frame _, fun h => by cases h⟩

end Go.Proofs.YtbdciilkapgfjaaGreatDoor
