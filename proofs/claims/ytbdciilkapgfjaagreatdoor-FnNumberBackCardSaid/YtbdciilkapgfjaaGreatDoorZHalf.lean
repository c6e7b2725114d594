/- math.Trunc and impl.half of a whole number: that number. -/
import Derived.Test.YtbdciilkapgfjaaGreatDoorZFromGo
import Derived.Laws.Externs
namespace Go.Proofs.YtbdciilkapgfjaaGreatDoor
open Go.RowKit

theorem archTrunc_run {h : Int} (h0 : h ≠ 0) (h1 : -9007199254740992 < h) (h2 : h < 9007199254740992) (w : World) :
    (callFunc 39 #[.float .f64 (FloatKind.f64.nearest h)]).run Tryz.prog w = .ok (.value (.float .f64 (FloatKind.f64.nearest h))) w := by
  have ht := trunc_whole h0 h1 h2
  have hd : FloatKind.f64.decode (FloatKind.f64.nearest h) = .number (decide (h < 0)) (sig h) (-((52 - h.natAbs.log2 : Nat) : Int)) := read_whole h0 h1 h2
  have hrun : (Extern.MathFloor.toIntegral "math.archTrunc" .zero #[.float .f64 (FloatKind.f64.nearest h)]).run Tryz.prog w = .ok (.float .f64 (FloatKind.f64.nearest h)) w := by
    rw [hd] at ht
    have e : Extern.MathFloor.toIntegral "math.archTrunc" .zero #[.float .f64 (FloatKind.f64.nearest h)] = Extern.MathFloor.toIntegral.match_1 (fun _ => Sem Value) (FloatKind.f64.decode (FloatKind.f64.nearest h)) _ _ := rfl
    rw [e, hd]
    show Sem.run _ (pure (Value.float .f64 (FloatKind.f64.encode (Ieee.Datum.integral .zero _)))) w = _
    rw [ht]
    rfl
  rw [run_callFunc_extern Tryz.func39 (by decide) rfl (by kernel_rfl) (by kernel_rfl), hrun]
  rfl

theorem Trunc_whole {h : Int} (h0 : h ≠ 0) (h1 : -9007199254740992 < h) (h2 : h < 9007199254740992) (w : World) :
    Calls Tryz.prog 31 #[.float .f64 (FloatKind.f64.nearest h)] w fun e w' => e = .returned (.float .f64 (FloatKind.f64.nearest h)) ∧ w = w' := by
  have hc := archTrunc_run h0 h1 h2
  generalize FloatKind.f64.nearest h = X at *
  clear h0 h1 h2
  go_enter Tryz.func31, Tryz.ntmps31
  go_wp2_with fail
  go_ret
  exact ⟨rfl, rfl⟩

theorem half_whole {h : Int} (h0 : h ≠ 0) (h1 : -9007199254740992 < h) (h2 : h < 9007199254740992) (w : World) :
    Calls Tryz.prog 19 #[.float .f64 (FloatKind.f64.nearest h)] w fun e w' => e = .returned (.tuple #[VC.val (numVC h), .bool true]) ∧ Below w.heap.size w w' := by
  have T := Lib.hid fun w' => Trunc_whole h0 h1 h2 w'
  have o1 := order_self h0 h1 h2
  have o2 := order_low h0 h1 h2
  have o3 := order_high h0 h1 h2
  have c4 : ∀ w, (convert 39 3 (.float .f64 (FloatKind.f64.nearest h))).run Tryz.prog w = .ok (.int .i64 h) w := fun w =>
    run_convert_float_int w 39 3 .f64 .i64 _ h (by simp [Tryz.underlying39]) Tryz.underlying3 (int_whole h0 h1 h2)
  generalize FloatKind.f64.nearest h = X at *
  clear h0 h1 h2
  unfold numVC VC.val VC.arr VC.nil
  go_enter Tryz.func19, Tryz.ntmps19
  go_wp2_with (go_at_call 31; refine (T.out _).mono ?_; rintro e w' ⟨rfl, rfl⟩)
  exact bodyPost_ret (v := .tuple #[.agg #[.int .i64 3, .int .i64 h, .string ByteArray.empty, .slice none 0 0, .slice none 0 0, .slice none 0 0], .bool true]) (by simp [results, Tryz.results19, go_sem]; rfl) rfl ⟨rfl, (Below.refl _ _).alloc (Nat.le_refl _) _⟩
end Go.Proofs.YtbdciilkapgfjaaGreatDoor
