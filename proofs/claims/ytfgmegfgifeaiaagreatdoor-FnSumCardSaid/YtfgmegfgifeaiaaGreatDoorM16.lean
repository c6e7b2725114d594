/- math.Trunc and impl.half of a whole number: that number. A part of the proof. -/
import Derived.Test.YtfgmegfgifeaiaaGreatDoorZFromGo
import Derived.Laws.Externs
import Derived.Test.YtfgmegfgifeaiaaGreatDoorM14
namespace Go.Proofs.YtfgmegfgifeaiaaGreatDoor
open Go.RowKit

theorem archTrunc_run {h : Int} (h0 : h ≠ 0) (h1 : -9007199254740992 < h) (h2 : h < 9007199254740992) (w : World) :
    (callFunc 123 #[.float .f64 (FloatKind.f64.nearest h)]).run Tryz.prog w = .ok (.value (.float .f64 (FloatKind.f64.nearest h))) w := by
  have ht := trunc_whole h0 h1 h2
  have hd : FloatKind.f64.decode (FloatKind.f64.nearest h) = .number (decide (h < 0)) (sig h) (-((52 - h.natAbs.log2 : Nat) : Int)) := read_whole h0 h1 h2
  have hrun : (Extern.MathFloor.toIntegral "math.archTrunc" .zero #[.float .f64 (FloatKind.f64.nearest h)]).run Tryz.prog w = .ok (.float .f64 (FloatKind.f64.nearest h)) w := by
    rw [hd] at ht
    have e : Extern.MathFloor.toIntegral "math.archTrunc" .zero #[.float .f64 (FloatKind.f64.nearest h)] = Extern.MathFloor.toIntegral.match_1 (fun _ => Sem Value) (FloatKind.f64.decode (FloatKind.f64.nearest h)) _ _ := rfl
    rw [e, hd]
    show Sem.run _ (pure (Value.float .f64 (FloatKind.f64.encode (Ieee.Datum.integral .zero _)))) w = _
    rw [ht]
    rfl
  rw [run_callFunc_extern Tryz.func123 (by decide) rfl (by kernel_rfl) (by kernel_rfl), hrun]
  rfl

theorem Trunc_whole {h : Int} (h0 : h ≠ 0) (h1 : -9007199254740992 < h) (h2 : h < 9007199254740992) (w : World) :
    Calls Tryz.prog 100 #[.float .f64 (FloatKind.f64.nearest h)] w fun e w' => e = .returned (.float .f64 (FloatKind.f64.nearest h)) ∧ w = w' := by
  have hc := archTrunc_run h0 h1 h2
  generalize FloatKind.f64.nearest h = X at *
  clear h0 h1 h2
  go_enter Tryz.func100, Tryz.ntmps100
  go_wp2_with fail
  go_ret
  exact ⟨rfl, rfl⟩

theorem half_whole {h : Int} (h0 : h ≠ 0) (h1 : -9007199254740992 < h) (h2 : h < 9007199254740992) (w : World) :
    Calls Tryz.prog 60 #[.float .f64 (FloatKind.f64.nearest h)] w fun e w' => e = .returned (.tuple #[VC.val (numVC h), .bool true]) ∧ Below w.heap.size w w' := by
  have T := Lib.hid fun w' => Trunc_whole h0 h1 h2 w'
  have o1 := order_self h0 h1 h2
  have o2 := order_low h0 h1 h2
  have o3 := order_high h0 h1 h2
  have c4 : ∀ w, (convert 57 3 (.float .f64 (FloatKind.f64.nearest h))).run Tryz.prog w = .ok (.int .i64 h) w := fun w =>
    run_convert_float_int w 57 3 .f64 .i64 _ h (by simp [Tryz.underlying57]) Tryz.underlying3 (int_whole h0 h1 h2)
  generalize FloatKind.f64.nearest h = X at *
  clear h0 h1 h2
  unfold numVC VC.val VC.arr VC.nil
  go_enter Tryz.func60, Tryz.ntmps60
  go_wp2_with (go_at_call 100; refine (T.out _).mono ?_; rintro e w' ⟨rfl, rfl⟩)
  exact bodyPost_ret (v := .tuple #[.agg #[.int .i64 3, .int .i64 h, .string ByteArray.empty, .slice none 0 0, .slice none 0 0, .slice none 0 0], .bool true]) (by simp [results, Tryz.results60, go_sem]; rfl) rfl ⟨rfl, (Below.refl _ _).alloc (Nat.le_refl _) _⟩
end Go.Proofs.YtfgmegfgifeaiaaGreatDoor

namespace Go.Proofs.YtfgmegfgifeaiaaGreatDoor
open Go.RowKit Ieee

/-- The whole part of a float. -/
def truncW (X : Nat) : Nat := FloatKind.f64.encode ((FloatKind.f64.decode X).integral .zero)
theorem archTrunc_ok {X : Nat} (hX : NotNaN X) (w : World) : (callFunc 123 #[.float .f64 X]).run Tryz.prog w = .ok (.value (.float .f64 (truncW X))) w := by
  have hrun : (Extern.MathFloor.toIntegral "math.archTrunc" .zero #[.float .f64 X]).run Tryz.prog w = .ok (.float .f64 (truncW X)) w := by
    have e : Extern.MathFloor.toIntegral "math.archTrunc" .zero #[.float .f64 X] = Extern.MathFloor.toIntegral.match_1 (fun _ => Sem Value) (FloatKind.f64.decode X) _ _ := rfl
    unfold truncW
    cases hd : FloatKind.f64.decode X with
    | nan s t => exact absurd hd (hX s t)
    | number s m i => rw [e, hd]; rfl
    | infinity s => rw [e, hd]; rfl
  rw [run_callFunc_extern Tryz.func123 (by decide) rfl (by kernel_rfl) (by kernel_rfl), hrun]
  rfl
theorem Trunc_ok {X : Nat} (hX : NotNaN X) (w : World) : Calls Tryz.prog 100 #[.float .f64 X] w fun e w' => e = .returned (.float .f64 (truncW X)) ∧ w = w' := by
  have hc := archTrunc_ok hX
  generalize truncW X = Y at *
  clear hX
  go_enter Tryz.func100, Tryz.ntmps100
  go_wp2_with fail
  go_ret
  exact ⟨rfl, rfl⟩

/-- impl.half of any float: a Value, and whether it is one. -/
theorem half_ok {X : Nat} (hX : NotNaN X) (w : World) : Calls Tryz.prog 60 #[.float .f64 X] w fun e w' => (∃ c b, e = .returned (.tuple #[VC.val c, .bool b]) ∧
    (∀ n, Fin64 (double.read X) (hv (2 * n)) → Fits (2 * n) → -4611686018427387904 < n → n < 4611686018427387904 → c = numVC n ∧ b = true)) ∧ Below w.heap.size w w' := by
  have T := Lib.hid fun w' => Trunc_ok hX w'
  obtain ⟨r1, o1⟩ := order_ok hX (trunc_ok hX)
  obtain ⟨r2, o2⟩ := order_ok hX (bound_ok true)
  obtain ⟨r3, o3⟩ := order_ok hX (bound_ok false)
  rw [show double.word true 4886405595696988160 = 14109777632551763968 by decide +kernel] at o2
  rw [show double.word false 4886405595696988160 = 4886405595696988160 by decide +kernel] at o3
  have FACT := Lib.hid fun n (h : Fin64 (double.read X) (hv (2 * n))) (hf : Fits (2 * n)) (h1 : -4611686018427387904 < n) (h2 : n < 4611686018427387904) => (show r1 = .eq ∧ r2 = .gt ∧ r3 = .lt ∧ floatToIntVal .f64 X .i64 = some n by
    have e1 := order_same h (trunc_word h hf)
    have e2 := order_low_val h h1
    have e3 := order_high_val h h2
    rw [o1] at e1; rw [o2] at e2; rw [o3] at e3
    exact ⟨Option.some.inj e1, Option.some.inj e2, Option.some.inj e3, int_val h h1 h2⟩)
  have CONV := Lib.hid fun (h2 : r2 = .gt) (h3 : r3 = .lt) => int_ok hX (by rw [o2, h2]) (by rw [o3, h3])
  change FloatKind.f64.format.order X (truncW X) = some r1 at o1
  clear hX
  unfold VC.val VC.arr
  have bad : (r1 ≠ .eq ∨ r2 ≠ .gt ∨ r3 ≠ .lt) → ∀ w', Below w.heap.size w w' → (∃ c b, Ending.returned (.tuple #[VC.val VC.nil, .bool false]) = .returned (.tuple #[VC.val c, .bool b]) ∧
    (∀ n, Fin64 (double.read X) (hv (2 * n)) → Fits (2 * n) → -4611686018427387904 < n → n < 4611686018427387904 → c = numVC n ∧ b = true)) ∧ Below w.heap.size w w' := fun h w' hb => ⟨⟨VC.nil, false, rfl, fun n a b c d => by
      obtain ⟨h1, h2, h3, _⟩ := FACT.out n a b c d
      rcases h with h | h | h
      · exact absurd h1 h
      · exact absurd h2 h
      · exact absurd h3 h⟩, hb⟩
  have BAD := Lib.hid bad
  clear bad
  rcases r1 with _ | _ | _
  case' eq => rcases r2 with _ | _ | _
  case' eq.gt => rcases r3 with _ | _ | _
  case' eq.gt.lt => obtain ⟨n9, hn9⟩ := CONV.out rfl rfl
  case' eq.gt.lt => have c4 : ∀ w, (convert 57 3 (.float .f64 X)).run Tryz.prog w = .ok (.int .i64 n9) w := fun w => run_convert_float_int w 57 3 .f64 .i64 _ n9 (by simp [Tryz.underlying57]) Tryz.underlying3 hn9
  case eq.gt.lt =>
    clear BAD CONV
    have F2 := Lib.hid fun n a b c d => (FACT.out n a b c d).2.2.2
    have HN9 := Lib.hid hn9
    clear hn9 FACT
    go_enter Tryz.func60, Tryz.ntmps60
    go_wp2_with (go_at_call 100; refine (T.out _).mono ?_; rintro e w' ⟨rfl, rfl⟩)
    refine bodyPost_ret (v := .tuple #[.agg #[.int .i64 3, .int .i64 n9, .string ByteArray.empty, .slice none 0 0, .slice none 0 0, .slice none 0 0], .bool true]) (by simp [results, Tryz.results60, go_sem]; rfl) rfl ?_
    refine ⟨⟨numVC n9, true, rfl, fun n a b c d => ⟨?_, rfl⟩⟩, (Below.refl _ _).alloc (Nat.le_refl _) _⟩
    have h := F2.out n a b c d
    rw [HN9.out] at h
    cases h
    rfl
  all_goals
    clear CONV FACT
    go_enter Tryz.func60, Tryz.ntmps60
    go_wp2_with (go_at_call 100; refine (T.out _).mono ?_; rintro e w' ⟨rfl, rfl⟩)
    refine bodyPost_ret (v := .tuple #[.agg #[.int .i64 0, .int .i64 0, .string ByteArray.empty, .slice none 0 0, .slice none 0 0, .slice none 0 0], .bool false]) (by simp [results, Tryz.results60, go_sem]; rfl) rfl ?_
    exact BAD.out (by simp) _ ((Below.refl _ _).alloc (Nat.le_refl _) _)
end Go.Proofs.YtfgmegfgifeaiaaGreatDoor
