/- gojq.funcHas at all values where has is not silent. -/
import Derived.Test.YtkfpaliiecmjoaaGreatDoorTypes
import Derived.Test.YtkfpaliiecmjoaaGreatDoorToGoAll
namespace Go.Proofs.YtkfpaliiecmjoaaGreatDoor
open Go.RowKit

/-- The block of a map that reads as an object, entry by entry. -/
theorem GR.mapAt {w : World} {S : Nat → Prop} {m : List (ByteArray × G)} {v : Value} (h : GR w S (.obj m) v) :
    ∃ b vs, v = .iface 70 (.map (some b)) ∧ S b ∧ vs.length = m.length ∧ MapAt w b ((m.map (·.1)).zip vs) ∧ ∀ i (_ : i < m.length) (h : i < vs.length), GR w S m[i].2 vs[i] := by
  rw [GR] at h
  obtain ⟨⟨b, es, c, rfl, h1, h2, h3, h4, h5, h6⟩, _, h8⟩ := h
  have hent : entsOf w (.iface 70 (.map (some b))) = es := by unfold entsOf blockOf; simp only [h2]
  rw [hent] at h8
  refine ⟨b, es.toList.map (·.val), rfl, h1, by simp [h4], ⟨es, c, h2, h3, ?_, ?_⟩, fun i hi hx => ?_⟩
  · apply List.ext_getElem
    · simp [h4]
    · intro i hi hj
      have hi1 : i < es.size := by simpa using hi
      have hi2 : i < m.length := by omega
      have := h6 i hi2 hi1
      simp [this]
  · rw [List.map_fst_zip (by simp [h4])]; exact h5
  · have hi1 : i < es.size := by omega
    obtain ⟨e, he, hg⟩ := h8 i (by simpa [G.ents] using hi)
    have : es[i] = e := by simpa [hi1] using he
    simp [this, G.ents] at hg ⊢
    exact hg

theorem zeroAny (w : World) : (zeroValue 20).run Tryz.prog w = .ok .nilIface w := by kernel_rfl

theorem toInt_int (n : Int) (w : World) : Calls Tryz.prog 95 #[.iface 3 (.int .i64 n)] w fun e w' => e = .returned (.tuple #[.int .i64 n, .bool true]) ∧ w = w' := by
  go_enter Tryz.func95, Tryz.ntmps95
  go_wp2_with fail
  go_ret2
  exact ⟨rfl, rfl⟩

/-- A value that is no number. -/
def NoNum : Value → Prop
  | .nilIface => True
  | .iface t _ => t = 4 ∨ t = 9 ∨ t = 67 ∨ t = 70
  | _ => False

theorem toInt_other (x : Value) (w : World) (h : NoNum x) : Calls Tryz.prog 95 #[x] w fun e w' => e = .returned (.tuple #[.int .i64 0, .bool false]) ∧ w = w' := by
  cases x with
  | nilIface =>
    go_enter Tryz.func95, Tryz.ntmps95
    go_wp2_with fail
    go_ret2
    exact ⟨rfl, rfl⟩
  | iface t u =>
    rcases h with rfl | rfl | rfl | rfl
    all_goals
      go_enter Tryz.func95, Tryz.ntmps95
      go_wp2_with fail
      go_ret2
      exact ⟨rfl, rfl⟩
  | _ => exact h.elim

/-- The call gives an error of has. -/
def F1Err (w : World) (e : Ending) (w' : World) : Prop := ∃ p, e = .returned (.iface 116 p) ∧ Below w.heap.size w w'

theorem funcHas_list (a : Option Addr) (n cap : Nat) (k : Int) (w : World) :
    Calls Tryz.prog 55 #[.iface 67 (.slice a n cap), .iface 3 (.int .i64 k)] w fun e w' => e = .returned (.iface 4 (.bool (decide (0 ≤ k ∧ k < n)))) ∧ Below w.heap.size w w' := by
  by_cases h0 : 0 ≤ k
  · go_enter Tryz.func55, Tryz.ntmps55
    go_wp2_with (go_at_call 95; refine (toInt_int _ _).mono ?_; rintro e w' ⟨rfl, rfl⟩)
    go_ret
    exact ⟨by simp [h0], Below.refl _ _⟩
  · go_enter Tryz.func55, Tryz.ntmps55
    go_wp2_with (go_at_call 95; refine (toInt_int _ _).mono ?_; rintro e w' ⟨rfl, rfl⟩)
    go_ret
    exact ⟨by simp; omega, Below.refl _ _⟩

theorem funcHas_list_err (a : Option Addr) (n cap : Nat) (x : Value) (w : World) (h : NoNum x) :
    Calls Tryz.prog 55 #[.iface 67 (.slice a n cap), x] w (F1Err w) := by
  have T := toInt_other x w h
  have TT := Lib.hid T
  clear T
  cases x with
  | nilIface =>
    go_enter Tryz.func55, Tryz.ntmps55
    go_wp2_with (go_at_call 95; refine TT.out.mono ?_; rintro e w' ⟨rfl, rfl⟩)
    go_ret
    exact ⟨_, rfl, (Below.refl _ _).alloc (Nat.le_refl _) _⟩
  | iface t u =>
    rcases h with rfl | rfl | rfl | rfl
    all_goals
      go_enter Tryz.func55, Tryz.ntmps55
      go_wp2_with (go_at_call 95; refine TT.out.mono ?_; rintro e w' ⟨rfl, rfl⟩)
      go_ret
      exact ⟨_, rfl, (Below.refl _ _).alloc (Nat.le_refl _) _⟩
  | _ => exact h.elim

/-- Whether a key is among these. -/
def among (s : ByteArray) (l : List ByteArray) : Bool := l.any fun x => x.data == s.data
theorem among_iff (s : ByteArray) (l : List ByteArray) : among s l = true ↔ s ∈ l := by
  simp only [among, List.any_eq_true, beq_iff_eq]
  constructor
  · rintro ⟨x, hx, h⟩; cases x; cases s; cases h; exact hx
  · intro h; exact ⟨s, h, rfl⟩
theorem among_true {s : ByteArray} {l : List ByteArray} (h : s ∈ l) : among s l = true := (among_iff s l).2 h
theorem among_false {s : ByteArray} {l : List ByteArray} (h : s ∉ l) : among s l = false := by
  cases hh : among s l with
  | false => rfl
  | true => exact absurd ((among_iff s l).1 hh) h

theorem funcHas_map (b : Nat) (k : ByteArray) (p : List (ByteArray × Value)) (w : World) (h : MapAt w b p) :
    Calls Tryz.prog 55 #[.iface 70 (.map (some b)), .iface 9 (.string k)] w fun e w' => e = .returned (.iface 4 (.bool (among k (p.map fun x : ByteArray × Value => x.1)))) ∧ Below w.heap.size w w' := by
  by_cases hk : k ∈ p.map fun x : ByteArray × Value => x.1
  · obtain ⟨v, hv⟩ : ∃ v, (k, v) ∈ p := by simpa using hk
    have q := h.lookup_hit Tryz.underlying70 Tryz.underlying9 hv true
    go_enter Tryz.func55, Tryz.ntmps55
    go_wp2_with fail
    go_ret
    exact ⟨by simp [among_true hk], Below.refl _ _⟩
  · have q := h.lookup_miss Tryz.underlying70 Tryz.underlying9 hk (zeroAny w) true
    go_enter Tryz.func55, Tryz.ntmps55
    go_wp2_with fail
    go_ret
    exact ⟨by simp [among_false hk], Below.refl _ _⟩

/-- A value that is no string. -/
def NoStr : Value → Prop
  | .nilIface => True
  | .iface t _ => t = 4 ∨ t = 3 ∨ t = 66 ∨ t = 67 ∨ t = 70
  | _ => False

theorem funcHas_map_err (b : Option Nat) (x : Value) (w : World) (h : NoStr x) :
    Calls Tryz.prog 55 #[.iface 70 (.map b), x] w (F1Err w) := by
  cases x with
  | nilIface =>
    go_enter Tryz.func55, Tryz.ntmps55
    go_wp2_with fail
    go_ret
    exact ⟨_, rfl, (Below.refl _ _).alloc (Nat.le_refl _) _⟩
  | iface t u =>
    rcases h with rfl | rfl | rfl | rfl | rfl
    all_goals
      go_enter Tryz.func55, Tryz.ntmps55
      go_wp2_with fail
      go_ret
      exact ⟨_, rfl, (Below.refl _ _).alloc (Nat.le_refl _) _⟩
  | _ => exact h.elim

theorem funcHas_plain (t : TypeId) (u x : Value) (w : World) (ht : t = 4 ∨ t = 3 ∨ t = 66 ∨ t = 9) (hx : x = .nilIface ∨ ∃ t u, x = .iface t u) :
    Calls Tryz.prog 55 #[.iface t u, x] w (F1Err w) := by
  rcases ht with rfl | rfl | rfl | rfl <;> rcases hx with rfl | ⟨t', u', rfl⟩
  all_goals
    go_enter Tryz.func55, Tryz.ntmps55
    go_wp2_with fail
    go_ret
    exact ⟨_, rfl, (Below.refl _ _).alloc (Nat.le_refl _) _⟩

/-- What has answers; silent where none is asked. -/
inductive Out where
  | silent
  | raises
  | value (j : J)

def hasOut : J → J → Out
  | .obj m, .str s => .value (.bool (among s (m.map fun x : ByteArray × J => x.1)))
  | .arr l, .num h => if h % 2 = 0 then .value (.bool (decide (0 ≤ h / 2 ∧ h / 2 < l.length))) else .silent
  | .null, _ => .silent
  | _, _ => .raises

/-- What a function of the package gives: an error, or a value. -/
def GOut (w : World) (o : Out) (e : Ending) (w' : World) : Prop :=
  match o with
  | .silent => True
  | .raises => F1Err w e w'
  | .value j => ∃ v, e = .returned v ∧ GR w' (New w.heap.size w') j.g v ∧ Below w.heap.size w w'

theorem noNum_of {w : World} {S : Nat → Prop} {g : G} {v : Value} (h : GHead w S g v) (hn : ∀ n, g ≠ .int n) (hf : ∀ n, g ≠ .float n) : NoNum v := by
  cases g with
  | null => cases h; trivial
  | bool b => cases h; exact Or.inl rfl
  | int n => exact absurd rfl (hn n)
  | float n => exact absurd rfl (hf n)
  | str s => cases h; exact Or.inr (Or.inl rfl)
  | arr l => obtain ⟨a, cap, rfl⟩ := h; exact Or.inr (Or.inr (Or.inl rfl))
  | obj m => obtain ⟨b, es, clock, rfl, _⟩ := h; exact Or.inr (Or.inr (Or.inr rfl))
theorem noStr_of {w : World} {S : Nat → Prop} {g : G} {v : Value} (h : GHead w S g v) (hn : ∀ n, g ≠ .str n) : NoStr v := by
  cases g with
  | null => cases h; trivial
  | bool b => cases h; exact Or.inl rfl
  | int n => cases h; exact Or.inr (Or.inl rfl)
  | float n => cases h; exact Or.inr (Or.inr (Or.inl rfl))
  | str s => exact absurd rfl (hn s)
  | arr l => obtain ⟨a, cap, rfl⟩ := h; exact Or.inr (Or.inr (Or.inr (Or.inl rfl)))
  | obj m => obtain ⟨b, es, clock, rfl, _⟩ := h; exact Or.inr (Or.inr (Or.inr (Or.inr rfl)))

theorem j_num (h : Int) : (J.num h).g = if h % 2 = 0 then .int (h / 2) else .float (fb h) := by rw [J.g]
theorem j_bool (b : Bool) : (J.bool b).g = .bool b := by rw [J.g]
theorem j_str (s : ByteArray) : (J.str s).g = .str s := by rw [J.g]
theorem j_null : J.null.g = .null := by rw [J.g]
theorem out_bool (w w' : World) (b : Bool) (hb : Below w.heap.size w w') : GOut w (.value (.bool b)) (.returned (.iface 4 (.bool b))) w' :=
  ⟨_, rfl, GR.leaf (by rw [j_bool]; exact rfl) (by rw [j_bool]; rfl) (by rw [j_bool]; rfl), hb⟩

theorem funcHas_any (j k : J) (v x : Value) (w : World) (S S' : Nat → Prop) (hv : GR w S j.g v) (hx : GR w S' k.g x) (hs : hasOut j k ≠ .silent) :
    Calls Tryz.prog 55 #[v, x] w (GOut w (hasOut j k)) := by
  have fx := hx.form
  cases j with
  | null => exact absurd rfl hs
  | bool b =>
    rw [j_bool] at hv
    have := hv.head; cases this
    exact funcHas_plain _ _ _ _ (Or.inl rfl) fx
  | num h =>
    rw [j_num] at hv
    split at hv
    · have := hv.head; cases this
      exact funcHas_plain _ _ _ _ (Or.inr (Or.inl rfl)) fx
    · have := hv.head; cases this
      exact funcHas_plain _ _ _ _ (Or.inr (Or.inr (Or.inl rfl))) fx
  | str s =>
    rw [j_str] at hv
    have := hv.head; cases this
    exact funcHas_plain _ _ _ _ (Or.inr (Or.inr (Or.inr rfl))) fx
  | arr l =>
    rw [J.g_arr] at hv
    obtain ⟨a, cap, rfl⟩ := hv.head
    cases k with
    | num h =>
      rw [j_num] at hx
      by_cases he : h % 2 = 0
      · rw [if_pos he] at hx
        have := hx.head; cases this
        simp only [hasOut, if_pos he, List.length_map]
        refine (funcHas_list a l.length cap (h / 2) w).mono ?_
        rintro e w' ⟨rfl, hb⟩
        exact out_bool _ _ _ hb
      · exact absurd (by simp [hasOut, he]) hs
    | null => exact funcHas_list_err _ _ _ _ _ (noNum_of hx.head (by intro n; rw [j_null]; exact G.noConfusion) (by intro n; rw [j_null]; exact G.noConfusion))
    | bool b => exact funcHas_list_err _ _ _ _ _ (noNum_of hx.head (by intro n; rw [j_bool]; exact G.noConfusion) (by intro n; rw [j_bool]; exact G.noConfusion))
    | str b => exact funcHas_list_err _ _ _ _ _ (noNum_of hx.head (by intro n; rw [j_str]; exact G.noConfusion) (by intro n; rw [j_str]; exact G.noConfusion))
    | arr b => exact funcHas_list_err _ _ _ _ _ (noNum_of hx.head (by intro n; rw [J.g_arr]; exact G.noConfusion) (by intro n; rw [J.g_arr]; exact G.noConfusion))
    | obj b => exact funcHas_list_err _ _ _ _ _ (noNum_of hx.head (by intro n; rw [J.g_obj]; exact G.noConfusion) (by intro n; rw [J.g_obj]; exact G.noConfusion))
  | obj m =>
    rw [J.g_obj] at hv
    obtain ⟨b, vs, rfl, _, hl, hM, _⟩ := hv.mapAt
    cases k with
    | str s =>
      rw [j_str] at hx
      have := hx.head; cases this
      refine (funcHas_map b s _ w hM).mono ?_
      rintro e w' ⟨rfl, hb⟩
      rw [List.map_fst_zip (by simp [hl])]
      rw [List.map_map]
      exact out_bool _ _ _ hb
    | num h =>
      refine funcHas_map_err _ _ _ (noStr_of hx.head (by intro n; rw [j_num]; split <;> exact G.noConfusion))
    | null => exact funcHas_map_err _ _ _ (noStr_of hx.head (by intro n; rw [j_null]; exact G.noConfusion))
    | bool b => exact funcHas_map_err _ _ _ (noStr_of hx.head (by intro n; rw [j_bool]; exact G.noConfusion))
    | arr b => exact funcHas_map_err _ _ _ (noStr_of hx.head (by intro n; rw [J.g_arr]; exact G.noConfusion))
    | obj b => exact funcHas_map_err _ _ _ (noStr_of hx.head (by intro n; rw [J.g_obj]; exact G.noConfusion))
end Go.Proofs.YtkfpaliiecmjoaaGreatDoor
