/- gojq.funcHas at all values where has is not silent. -/
import Derived.Test.YtjannccgfmclhaaGreatDoorOut
namespace Go.Proofs.YtjannccgfmclhaaGreatDoor
open Go.RowKit

@[go_sem] theorem as_f1err_error (v : Value) (w : World) : (Instr.typeAssert (.iface 106 v) 20 56 true).run Tryz.prog w = .ok (.tuple #[.iface 106 v, .bool true]) w := run_typeAssert_hasB Tryz.underlying56 (by kernel_rfl) v 20 w

/-- The call gives an error of has. -/
def F1Err (w : World) (e : Ending) (w' : World) : Prop := ∃ p, e = .returned (.iface 106 p) ∧ Below w.heap.size w w'

theorem toInt_int (n : Int) (w : World) : Calls Tryz.prog 48 #[.iface 3 (.int .i64 n)] w fun e w' => e = .returned (.tuple #[.int .i64 n, .bool true]) ∧ w = w' := by
  go_enter Tryz.func48, Tryz.ntmps48
  go_wp2_with fail
  go_ret2
  exact ⟨rfl, rfl⟩

/-- A value that is no number. -/
def NoNum : Value → Prop
  | .nilIface => True
  | .iface t _ => t = 4 ∨ t = 9 ∨ t = 40 ∨ t = 52
  | _ => False

theorem toInt_other (x : Value) (w : World) (h : NoNum x) : Calls Tryz.prog 48 #[x] w fun e w' => e = .returned (.tuple #[.int .i64 0, .bool false]) ∧ w = w' := by
  cases x with
  | nilIface =>
    go_enter Tryz.func48, Tryz.ntmps48
    go_wp2_with fail
    go_ret2
    exact ⟨rfl, rfl⟩
  | iface t u =>
    rcases h with rfl | rfl | rfl | rfl
    all_goals
      go_enter Tryz.func48, Tryz.ntmps48
      go_wp2_with fail
      go_ret2
      exact ⟨rfl, rfl⟩
  | _ => exact h.elim

theorem funcHas_list (a : Option Addr) (n cap : Nat) (k : Int) (w : World) :
    Calls Tryz.prog 33 #[.iface 40 (.slice a n cap), .iface 3 (.int .i64 k)] w fun e w' => e = .returned (.iface 4 (.bool (decide (0 ≤ k ∧ k < n)))) ∧ Below w.heap.size w w' := by
  by_cases h0 : 0 ≤ k
  · go_enter Tryz.func33, Tryz.ntmps33
    go_wp2_with (go_at_call 48; refine (toInt_int _ _).mono ?_; rintro e w' ⟨rfl, rfl⟩)
    go_ret
    exact ⟨by simp [h0], Below.refl _ _⟩
  · go_enter Tryz.func33, Tryz.ntmps33
    go_wp2_with (go_at_call 48; refine (toInt_int _ _).mono ?_; rintro e w' ⟨rfl, rfl⟩)
    go_ret
    exact ⟨by simp; omega, Below.refl _ _⟩

theorem funcHas_list_err (a : Option Addr) (n cap : Nat) (x : Value) (w : World) (h : NoNum x) :
    Calls Tryz.prog 33 #[.iface 40 (.slice a n cap), x] w (F1Err w) := by
  have T := toInt_other x w h
  have TT := Lib.hid T
  clear T
  cases x with
  | nilIface =>
    go_enter Tryz.func33, Tryz.ntmps33
    go_wp2_with (go_at_call 48; refine TT.out.mono ?_; rintro e w' ⟨rfl, rfl⟩)
    go_ret
    exact ⟨_, rfl, (Below.refl _ _).alloc (Nat.le_refl _) _⟩
  | iface t u =>
    rcases h with rfl | rfl | rfl | rfl
    all_goals
      go_enter Tryz.func33, Tryz.ntmps33
      go_wp2_with (go_at_call 48; refine TT.out.mono ?_; rintro e w' ⟨rfl, rfl⟩)
      go_ret
      exact ⟨_, rfl, (Below.refl _ _).alloc (Nat.le_refl _) _⟩
  | _ => exact h.elim

theorem funcHas_map (b : Nat) (k : ByteArray) (p : List (ByteArray × Value)) (w : World) (h : MapAt w b p) :
    Calls Tryz.prog 33 #[.iface 52 (.map (some b)), .iface 9 (.string k)] w fun e w' => e = .returned (.iface 4 (.bool (among k (p.map fun x : ByteArray × Value => x.1)))) ∧ Below w.heap.size w w' := by
  by_cases hk : k ∈ p.map fun x : ByteArray × Value => x.1
  · obtain ⟨v, hv⟩ : ∃ v, (k, v) ∈ p := by simpa using hk
    have q := h.lookup_hit Tryz.underlying52 Tryz.underlying9 hv true
    go_enter Tryz.func33, Tryz.ntmps33
    go_wp2_with fail
    go_ret
    exact ⟨by simp [among_true hk], Below.refl _ _⟩
  · have q := h.lookup_miss Tryz.underlying52 Tryz.underlying9 hk (zeroAny w) true
    go_enter Tryz.func33, Tryz.ntmps33
    go_wp2_with fail
    go_ret
    exact ⟨by simp [among_false hk], Below.refl _ _⟩

/-- A value that is no string. -/
def NoStr : Value → Prop
  | .nilIface => True
  | .iface t _ => t = 4 ∨ t = 3 ∨ t = 50 ∨ t = 40 ∨ t = 52
  | _ => False

theorem funcHas_map_err (b : Option Nat) (x : Value) (w : World) (h : NoStr x) :
    Calls Tryz.prog 33 #[.iface 52 (.map b), x] w (F1Err w) := by
  cases x with
  | nilIface =>
    go_enter Tryz.func33, Tryz.ntmps33
    go_wp2_with fail
    go_ret
    exact ⟨_, rfl, (Below.refl _ _).alloc (Nat.le_refl _) _⟩
  | iface t u =>
    rcases h with rfl | rfl | rfl | rfl | rfl
    all_goals
      go_enter Tryz.func33, Tryz.ntmps33
      go_wp2_with fail
      go_ret
      exact ⟨_, rfl, (Below.refl _ _).alloc (Nat.le_refl _) _⟩
  | _ => exact h.elim

theorem funcHas_plain (t : TypeId) (u x : Value) (w : World) (ht : t = 4 ∨ t = 3 ∨ t = 50 ∨ t = 9) (hx : x = .nilIface ∨ ∃ t u, x = .iface t u) :
    Calls Tryz.prog 33 #[.iface t u, x] w (F1Err w) := by
  rcases ht with rfl | rfl | rfl | rfl <;> rcases hx with rfl | ⟨t', u', rfl⟩
  all_goals
    go_enter Tryz.func33, Tryz.ntmps33
    go_wp2_with fail
    go_ret
    exact ⟨_, rfl, (Below.refl _ _).alloc (Nat.le_refl _) _⟩

theorem F1Err.out {w : World} {e : Ending} {w' : World} (h : F1Err w e w') : GOut w .raises e w' := by
  obtain ⟨p, rfl, hb⟩ := h
  exact ⟨_, rfl, ⟨_, _, rfl, as_f1err_error p⟩, hb⟩

theorem noNum_of {w : World} {S : Nat → Prop} {g : G} {v : Value} (h : GHead w S g v) (hn : ∀ n, g ≠ .int n) (hf : ∀ n, g ≠ .float n) : NoNum v := by
  cases g with
  | null => cases h; trivial
  | bool b => cases h; exact Or.inl rfl
  | int n => exact absurd rfl (hn n)
  | float n => exact absurd rfl (hf n)
  | str s => cases h; exact Or.inr (Or.inl rfl)
  | arr l => obtain ⟨a, cap, rfl⟩ := h; exact Or.inr (Or.inr (Or.inl rfl))
  | obj m => obtain ⟨b, es, clock, rfl, _⟩ := h; exact Or.inr (Or.inr (Or.inr rfl))
theorem noStr_of {w : World} {S : Nat → Prop} {g : G} {v : Value} (h : GHead w S g v) (hn : ∀ n, g ≠ .str n) : NoStr v := by
  cases g with
  | null => cases h; trivial
  | bool b => cases h; exact Or.inl rfl
  | int n => cases h; exact Or.inr (Or.inl rfl)
  | float n => cases h; exact Or.inr (Or.inr (Or.inl rfl))
  | str s => exact absurd rfl (hn s)
  | arr l => obtain ⟨a, cap, rfl⟩ := h; exact Or.inr (Or.inr (Or.inr (Or.inl rfl)))
  | obj m => obtain ⟨b, es, clock, rfl, _⟩ := h; exact Or.inr (Or.inr (Or.inr (Or.inr rfl)))

theorem funcHas_any (j k : J) (v x : Value) (w : World) (S S' : Nat → Prop) (hv : GR w S j.g v) (hx : GR w S' k.g x) (hs : hasOut j k ≠ .silent) :
    Calls Tryz.prog 33 #[v, x] w (GOut w (hasOut j k)) := by
  have fx := hx.form
  cases j with
  | null => exact absurd rfl hs
  | bool b =>
    rw [j_bool] at hv
    have := hv.head; cases this
    exact (funcHas_plain _ _ _ _ (Or.inl rfl) fx).mono fun _ _ h => h.out
  | num h =>
    rw [j_num] at hv
    split at hv
    · have := hv.head; cases this
      exact (funcHas_plain _ _ _ _ (Or.inr (Or.inl rfl)) fx).mono fun _ _ h => h.out
    · have := hv.head; cases this
      exact (funcHas_plain _ _ _ _ (Or.inr (Or.inr (Or.inl rfl))) fx).mono fun _ _ h => h.out
  | str s =>
    rw [j_str] at hv
    have := hv.head; cases this
    exact (funcHas_plain _ _ _ _ (Or.inr (Or.inr (Or.inr rfl))) fx).mono fun _ _ h => h.out
  | arr l =>
    rw [J.g_arr] at hv
    obtain ⟨a, cap, rfl⟩ := hv.head
    cases k with
    | num h =>
      rw [j_num] at hx
      by_cases he : h % 2 = 0
      · rw [if_pos he] at hx
        have := hx.head; cases this
        simp only [hasOut, if_pos he, List.length_map]
        refine (funcHas_list a l.length cap (h / 2) w).mono ?_
        rintro e w' ⟨rfl, hb⟩
        exact out_bool _ _ _ hb
      · exact absurd (by simp [hasOut, he]) hs
    | null => exact (funcHas_list_err _ _ _ _ _ (noNum_of hx.head (by intro n; rw [j_null]; exact G.noConfusion) (by intro n; rw [j_null]; exact G.noConfusion))).mono fun _ _ h => h.out
    | bool b => exact (funcHas_list_err _ _ _ _ _ (noNum_of hx.head (by intro n; rw [j_bool]; exact G.noConfusion) (by intro n; rw [j_bool]; exact G.noConfusion))).mono fun _ _ h => h.out
    | str b => exact (funcHas_list_err _ _ _ _ _ (noNum_of hx.head (by intro n; rw [j_str]; exact G.noConfusion) (by intro n; rw [j_str]; exact G.noConfusion))).mono fun _ _ h => h.out
    | arr b => exact (funcHas_list_err _ _ _ _ _ (noNum_of hx.head (by intro n; rw [J.g_arr]; exact G.noConfusion) (by intro n; rw [J.g_arr]; exact G.noConfusion))).mono fun _ _ h => h.out
    | obj b => exact (funcHas_list_err _ _ _ _ _ (noNum_of hx.head (by intro n; rw [J.g_obj]; exact G.noConfusion) (by intro n; rw [J.g_obj]; exact G.noConfusion))).mono fun _ _ h => h.out
  | obj m =>
    rw [J.g_obj] at hv
    obtain ⟨b, vs, rfl, _, hl, hM, _⟩ := hv.mapAt
    cases k with
    | str s =>
      rw [j_str] at hx
      have := hx.head; cases this
      refine (funcHas_map b s _ w hM).mono ?_
      rintro e w' ⟨rfl, hb⟩
      rw [List.map_fst_zip (by simp [hl])]
      rw [List.map_map]
      exact out_bool _ _ _ hb
    | num h =>
      refine (funcHas_map_err _ _ _ (noStr_of hx.head (by intro n; rw [j_num]; split <;> exact G.noConfusion))).mono fun _ _ h => h.out
    | null => exact (funcHas_map_err _ _ _ (noStr_of hx.head (by intro n; rw [j_null]; exact G.noConfusion))).mono fun _ _ h => h.out
    | bool b => exact (funcHas_map_err _ _ _ (noStr_of hx.head (by intro n; rw [j_bool]; exact G.noConfusion))).mono fun _ _ h => h.out
    | arr b => exact (funcHas_map_err _ _ _ (noStr_of hx.head (by intro n; rw [J.g_arr]; exact G.noConfusion))).mono fun _ _ h => h.out
    | obj b => exact (funcHas_map_err _ _ _ (noStr_of hx.head (by intro n; rw [J.g_obj]; exact G.noConfusion))).mono fun _ _ h => h.out
end Go.Proofs.YtjannccgfmclhaaGreatDoor
