/- laws.FnDelOne returns true at every input and leaves it as it was, as the row's contract asks. Its one condition: the listed variables read as the row lists them. -/
import Derived.Test.YtnaijgdffbfapaaGreatDoorZDelLaw
import Derived.Test.YtnaijgdffbfapaaGreatDoorZOpen
import Derived.Test.YtnaijgdffbfapaaGreatDoorZTabs
import Derived.Test.YtnaijgdffbfapaaGreatDoorDelWit
import Derived.Carry
namespace Go.Proofs.YtnaijgdffbfapaaGreatDoor
open Go.RowKit Go.ChangeShapes Go.WideShapes Go.ChangeAt

theorem accept_eq : (Rows.laid_unicode_utf8_acceptRanges : DataW Unit) = Lib.acceptData := by kernel_rfl
theorem own : ownKnob Tryz.prog.godebug = none := by kernel_rfl
theorem laidOut : laidOutB Tryz.prog = true := by kernel_rfl

set_option maxRecDepth 100000 in
theorem fnDelOne_lifted (os : Os) (started : os.Started) (H : Type) (enc : TypeId × Value → H) :
    ReturnsInHanded {} Tryz.checked os 3 .any (fun w args => (Rows.fnDelOneSpec.pre enc Tryz.prog Tryz.f3 [] false w args ∧ laidMetH Tryz.prog Rows.fnDelOneRow.laid w) ∧ sizedMet enc Tryz.prog Tryz.f3 (OpenSpec.ofChange Rows.fnDelOneSpec) false w args)
      (Rows.fnDelOneSpec.post enc Tryz.prog Tryz.f3 false true false false) := by
  refine returnsInHanded_of_change_and (C := Tryz.checked) (X := fun w _ => laidMetH Tryz.prog Rows.fnDelOneRow.laid w) (fun _ _ _ hh h => h.of_heap hh) own started (by kernel_rfl) Tryz.func3
    (fnDelOne_wit os H enc) ?_
  intro W base args ds gs before hval0 hW _ hsz hL _
  have hval : ∀ (j : Nat) t v, Tryz.f3.params[j]? = some t → args[j]? = some v → Value.okWide Tryz.prog W .any base t v := hval0
  have hW' := hW
  have hlt : ∀ x ∈ before, x.block < W.heap.size := fun x hx => by simpa using hW'.lt x hx
  obtain ⟨p, q, hA0, hV, rfl, _, _⟩ := hW
  have hA : DataW.TrodAll enc Tryz.prog W 0 (fun _ => true) true Tryz.f3.params.toList args.toList ds p := hA0
  rw [Tryz.params3] at hA hval
  obtain ⟨v0, v1, d0, d1, p0, p1, rfl, rfl, rfl, h0, h1⟩ := trodAll_two hA
  obtain ⟨rfl, rfl⟩ := trodVars_none hV
  obtain ⟨cs0, rfl, _⟩ := okWide_struct Tryz.underlying26 (hval 0 26 v0 rfl rfl)
  obtain ⟨x1, rfl⟩ := okWide_int Tryz.underlying27 (hval 1 27 v1 rfl rfl)
  simp only [List.append_nil] at hW' hlt
  have hsz' : (DataW.weightsEach Tryz.prog [26, 27] [d0, d1]).all (· ≤ reachBytes) = true := by
    have := hsz
    rw [Tryz.params3, show Rows.fnDelOneSpec.plain.varTypes Tryz.checked.prog = [] from rfl, show Tryz.checked.prog = Tryz.prog from rfl] at this
    simpa using this
  simp only [DataW.weightsEach, List.append_nil, List.all_append, Bool.and_eq_true, List.all_eq_true, decide_eq_true_eq] at hsz'
  obtain ⟨fuel0, t0⟩ := h0
  obtain ⟨fuel1, t1⟩ := h1
  obtain ⟨c0, tr0, e0, T0⟩ := open_value fuel0 _ _ t0 hsz'.1
  obtain ⟨_, e1, q1, wf1⟩ := DataW.trod_int Tryz.underlying27 t1
  cases e1
  cases q1
  have e0' : cs0 = c0.arr := by
    have : cs0.toList = c0.arr.toList := e0
    exact Array.toList_inj.1 this
  subst e0'
  rw [MakeChecks.laidMetH_plain _ _ _ (by kernel_rfl)] at hL
  have hT : Tabs W := tabs_of_reads (Pinned.utf8First_eq ▸ Lib.laidMet.reads hL (d := Rows.laid_unicode_utf8_first) (by simp [Rows.fnDelOneRow])) (accept_eq ▸ Lib.laidMet.reads hL (d := Rows.laid_unicode_utf8_acceptRanges) (by simp [Rows.fnDelOneRow]))
  refine (FnDelOne_any tr0 x1 c0 W.heap.size (Nat.le_refl _) hT.size hT T0 wf1).mono fun e W' ⟨he, hb⟩ => ?_
  subst he
  have k0 : DataW.Trod enc Tryz.prog W 0 (fun _ => true) true 26 (.agg c0.arr) d0 p0 := ⟨fuel0, t0⟩
  have k1 : DataW.Trod enc Tryz.prog W 0 (fun _ => true) true 27 (.int .u16 x1) _ [] := ⟨fuel1, t1⟩
  exact ⟨_, rfl, _, _, _, [], _, [], hW', trodAll_mk1 (shut_bool Tryz.underlying4 _),
    trodAll_mk2 (Below.trod laidOut (by kernel_rfl) (of_decide_eq_true (by kernel_rfl)) k0 hb (fun x hx => hlt x (by simp [hx]))) (Below.trod laidOut (by kernel_rfl) (of_decide_eq_true (by kernel_rfl)) k1 hb (fun x hx => absurd hx (by simp))),
    rfl, hb.frame _, fun h => by cases h⟩

end Go.Proofs.YtnaijgdffbfapaaGreatDoor
