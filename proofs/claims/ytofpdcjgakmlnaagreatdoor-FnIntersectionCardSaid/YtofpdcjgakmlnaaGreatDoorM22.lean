/- A part of the proof. A part of the proof. A part of the proof. -/
import Derived.Test.YtofpdcjgakmlnaaGreatDoorM20
import Derived.Test.YtofpdcjgakmlnaaGreatDoorZGKeys
import Derived.Test.YtofpdcjgakmlnaaGreatDoorM19
import Derived.LoopTactic
namespace Go.Proofs.YtofpdcjgakmlnaaGreatDoor
open Go.RowKit

/-- The keys of an object, as the package's keys gives them. -/
theorem gkeys_obj {w : World} {b : Nat} {m : List (ByteArray × J)} {mv : List (ByteArray × Value)} (hM : MapAt w b mv) (hp : (mv.map (·.1)).Perm (m.map (·.1))) (hl : m.length ≤ 400)
    (hup : ∀ i (_ : i + 1 < m.length), Op.bytesLess m[i].1.toList m[i + 1].1.toList = true) :
    Calls Tryz.prog 90 #[.map (some b)] w fun e w' => ∃ g, e = .returned (.slice (some ⟨g, 0, none⟩) m.length m.length) ∧ w.heap.size ≤ g ∧ Arr w' g 9 (m.map fun p => Value.string p.1) ∧ Below w.heap.size w w' := by
  have hlen : mv.length = m.length := by have := hp.length_eq; simpa using this
  have h := gkeys_any hM (by omega)
  rw [keys_sorted hup hp, hlen] at h
  exact h

set_option maxRecDepth 100000 in
theorem funcKeys_map {w : World} {b : Nat} {m : List (ByteArray × J)} {mv : List (ByteArray × Value)} (hM : MapAt w b mv) (hp : (mv.map (·.1)).Perm (m.map (·.1))) (hl : m.length ≤ 400)
    (hup : ∀ i (_ : i + 1 < m.length), Op.bytesLess m[i].1.toList m[i + 1].1.toList = true) (F : Nat → Value) (hF : ∀ i (h : i < m.length), F i = .iface 9 (.string m[i].1)) :
    Calls Tryz.prog 57 #[.iface 51 (.map (some b))] w fun e w' => e = .returned (.iface 48 (.slice (some ⟨w.heap.size, 0, none⟩) m.length m.length)) ∧ Arr w' w.heap.size 20 (fillRow F m.length m.length) ∧ Below w.heap.size w w' := by
  have hmk := makeAnys m.length hl
  have hb0 : Below w.heap.size w (w.alloc (.cells (madeCells #[.nilIface] m.length) 20)) := (Below.refl _ _).alloc (Nat.le_refl _) _
  have A0 := Lib.hid (arr_made w m.length)
  have B0 := Lib.hid hb0
  have hlen : mv.length = m.length := by have := hp.length_eq; simpa using this
  have K := Lib.hid (gkeys_obj (hM.same (hb0.block b hM.lt)) hp hl hup)
  have hln := len_mapAt hM
  rw [hlen] at hln
  have HF := Lib.hid hF
  clear hM hp hup hb0 hF
  go_enter Tryz.func57, Tryz.ntmps57
  go_wp2_with (first | simp only [hln] | simp only [hmk])
  refine K.out.mono ?_
  rintro e w1 ⟨g, rfl, hg, hKA, hb1⟩
  have A1 := Lib.hid (A0.out.below hb1 (by simp))
  have B1 := Lib.hid (B0.out.trans (hb1.mono B0.out.size))
  have KA := Lib.hid hKA
  have hg1 := hKA.lt
  simp only [World.size_alloc] at hg
  clear hKA hb1 K
  go_wp2_with fail
  go_loopw [44] (fun i wr => ∃ k : Nat, i = .int .i64 k ∧ k ≤ m.length ∧ Arr wr w.heap.size 20 (fillRow F k m.length) ∧ Arr wr g 9 (m.map fun p => Value.string p.1) ∧ Below w.heap.size w wr) (fun i _ => m.length - (intOf i).toNat)
  case atStart => exact ⟨0, rfl, Nat.zero_le _, by rw [fillRow_zero]; exact A1.out, KA.out, B1.out⟩
  case round =>
    obtain ⟨k, rfl, hm, hA, hS, hb⟩ := hrel
    by_cases hlt : k < m.length
    · have hc := hA.cell (i := k) (by rw [fillRow_len]; exact hlt)
      have hf := hA.fr k
      have hk := hS.cell (i := k) (by simpa using hlt)
      have hfk := HF.out k hlt
      rw [List.getElem_map] at hk
      have FK := Lib.hid hfk
      generalize m[k].1 = key at hk FK
      have HA := Lib.hid hA; have HB := Lib.hid hb; have HS := Lib.hid hS
      clear hA hb hS hfk
      go_wp2_with fail
      go_roundw
      case rel =>
        have h := HA.out.set k (F k)
        rw [fillRow_set F, FK.out] at h
        exact ⟨k + 1, by go_num, by omega, h, HS.out.same (Below.heap_setCell _ _ _ _ (by simp; omega)), HB.out.setCell (Nat.le_refl _) _⟩
      case measure => simp [intOf]; omega
    · obtain rfl : k = m.length := by omega
      have HA := Lib.hid hA; have HB := Lib.hid hb
      clear hA hb hS
      go_wp2_with fail
      go_ret
      exact ⟨rfl, HA.out, HB.out⟩

end Go.Proofs.YtofpdcjgakmlnaaGreatDoor

namespace Go.Proofs.YtofpdcjgakmlnaaGreatDoor
open Go.RowKit Ieee

/-- A call that gives this number. -/
def CmpPost (c : Int) (w : World) (e : Ending) (w' : World) : Prop := e = .returned (.int .i64 c) ∧ Below w.heap.size w w'

theorem isNaNI_any (x : Int) (w : World) : Calls Tryz.prog 87 #[.int .i64 x] w fun e w' => e = .returned (.bool false) ∧ w = w' := by
  go_enter Tryz.func87, Tryz.ntmps87
  go_wp2_with fail
  go_ret
  exact ⟨rfl, rfl⟩
theorem isNaNS_any (x : ByteArray) (w : World) : Calls Tryz.prog 89 #[.string x] w fun e w' => e = .returned (.bool false) ∧ w = w' := by
  go_enter Tryz.func89, Tryz.ntmps89
  go_wp2_with fail
  go_ret
  exact ⟨rfl, rfl⟩

theorem cmpInt_any (x y : Int) (w : World) : Calls Tryz.prog 50 #[.int .i64 x, .int .i64 y] w (CmpPost (sgn x y) w) := by
  obtain ⟨s, hs⟩ : ∃ s, s = sgn x y := ⟨_, rfl⟩
  rw [← hs]
  unfold sgn at hs
  have N := Lib.hid isNaNI_any
  rcases Int.lt_trichotomy x y with h | h | h
  · rw [if_pos h] at hs
    subst hs
    go_enter Tryz.func50, Tryz.ntmps50
    go_wp2_with fail
    refine (N.out _ _).mono ?_
    rintro e w' ⟨rfl, rfl⟩
    go_wp2_with fail
    refine (N.out _ _).mono ?_
    rintro e w' ⟨rfl, rfl⟩
    go_wp2_with fail
    go_ret
    exact ⟨rfl, Below.refl _ _⟩
  · subst h
    rw [if_neg (Int.lt_irrefl _), if_pos rfl] at hs
    subst hs
    go_enter Tryz.func50, Tryz.ntmps50
    go_wp2_with fail
    refine (N.out _ _).mono ?_
    rintro e w' ⟨rfl, rfl⟩
    go_wp2_with fail
    refine (N.out _ _).mono ?_
    rintro e w' ⟨rfl, rfl⟩
    go_wp2_with fail
    go_ret
    exact ⟨rfl, Below.refl _ _⟩
  · have h1 : ¬ x < y := by omega
    rw [if_neg h1, if_neg (by omega)] at hs
    subst hs
    go_enter Tryz.func50, Tryz.ntmps50
    go_wp2_with fail
    refine (N.out _ _).mono ?_
    rintro e w' ⟨rfl, rfl⟩
    go_wp2_with fail
    refine (N.out _ _).mono ?_
    rintro e w' ⟨rfl, rfl⟩
    go_wp2_with fail
    go_ret
    exact ⟨rfl, Below.refl _ _⟩

theorem cmpStr_any (x y : ByteArray) (w : World) : Calls Tryz.prog 54 #[.string x, .string y] w (CmpPost (cmpB x y) w) := by
  obtain ⟨s, hs⟩ : ∃ s, s = cmpB x y := ⟨_, rfl⟩
  rw [← hs]
  unfold cmpB at hs
  have N := Lib.hid isNaNS_any
  rcases lt_or x y with h | h | h
  · rw [if_pos h] at hs
    subst hs
    unfold Lt at h
    go_enter Tryz.func54, Tryz.ntmps54
    go_wp2_with fail
    refine (N.out _ _).mono ?_
    rintro e w' ⟨rfl, rfl⟩
    go_wp2_with fail
    refine (N.out _ _).mono ?_
    rintro e w' ⟨rfl, rfl⟩
    go_wp2_with fail
    go_ret
    exact ⟨rfl, Below.refl _ _⟩
  · subst h
    have h0 := less_irrefl x
    rw [if_neg (Lt.irrefl _), if_pos rfl] at hs
    subst hs
    go_enter Tryz.func54, Tryz.ntmps54
    go_wp2_with fail
    refine (N.out _ _).mono ?_
    rintro e w' ⟨rfl, rfl⟩
    go_wp2_with fail
    refine (N.out _ _).mono ?_
    rintro e w' ⟨rfl, rfl⟩
    go_wp2_with fail
    go_ret
    exact ⟨rfl, Below.refl _ _⟩
  · have h1 : Op.bytesLess x.toList y.toList = false := by
      cases e : Op.bytesLess x.toList y.toList with
      | false => rfl
      | true => exact absurd e h.asymm
    rw [if_neg h.asymm, if_neg (fun e => by rw [e] at h; exact Lt.irrefl _ h)] at hs
    subst hs
    unfold Lt at h
    have he : (x.toList == y.toList) = false := beq_eq_false_iff_ne.2 (fun e => by rw [e, less_irrefl] at h; cases h)
    go_enter Tryz.func54, Tryz.ntmps54
    go_wp2_with fail
    refine (N.out _ _).mono ?_
    rintro e w' ⟨rfl, rfl⟩
    go_wp2_with fail
    refine (N.out _ _).mono ?_
    rintro e w' ⟨rfl, rfl⟩
    go_wp2_with fail
    go_ret
    exact ⟨rfl, Below.refl _ _⟩

/-- The rank of a value's kind. -/
def Kd.rank : Kd → Int
  | .nil => 0
  | .bool b => if b then 2 else 1
  | .int _ => 3
  | .float _ => 3
  | .str _ => 4
  | .list .. => 5
  | .map _ => 6
theorem typeIndex_any (k : Kd) (w : World) : Calls Tryz.prog 59 #[k.val] w fun e w' => e = .returned (.int .i64 k.rank) ∧ w = w' := by
  cases k with
  | bool b =>
    cases b
    all_goals
      unfold Kd.val Kd.rank
      go_enter Tryz.func59, Tryz.ntmps59
      go_wp2_with fail
      go_ret
      exact ⟨rfl, rfl⟩
  | _ =>
    unfold Kd.val Kd.rank
    go_enter Tryz.func59, Tryz.ntmps59
    go_wp2_with fail
    go_ret
    exact ⟨rfl, rfl⟩
theorem Cmp4_any (k r : Kd) (w : World) : Calls Tryz.prog 58 #[k.val, r.val] w (CmpPost (sgn k.rank r.rank) w) := by
  have T1 := Lib.hid (typeIndex_any k); have T2 := Lib.hid (typeIndex_any r); have C := Lib.hid (cmpInt_any k.rank r.rank)
  generalize k.val = kv at *
  generalize r.val = rv at *
  generalize k.rank = kk at *
  generalize r.rank = rr at *
  go_enter Tryz.func58, Tryz.ntmps58
  go_wp2_with fail
  refine (T1.out _).mono ?_
  rintro e w' ⟨rfl, rfl⟩
  go_wp2_with fail
  refine (T2.out _).mono ?_
  rintro e w' ⟨rfl, rfl⟩
  go_wp2_with fail
  refine (C.out _).mono ?_
  rintro e w' ⟨rfl, hb⟩
  go_wp2_with fail
  go_ret
  exact ⟨rfl, hb⟩

/-- A float that is so many halves. -/
def FH (X : Nat) (a : Int) : Prop := Fin64 (double.read X) (hv a)
theorem FH.order {X Y : Nat} {a b : Int} (hX : FH X a) (hY : FH Y b) : FloatKind.f64.format.order X Y = some (if a < b then .lt else if a = b then .eq else .gt) := by
  rw [order_val hX hY]
  congr 1
  have h1 := hv_lt (a := a) (b := b)
  have h2 := hv_lt (a := b) (b := a)
  rcases Int.lt_trichotomy a b with h | h | h
  · rw [if_pos h]; exact Int.compare_eq_lt.2 (h1.2 h)
  · subst h; rw [if_neg (Int.lt_irrefl _), if_pos rfl]; exact Int.compare_eq_eq.2 rfl
  · rw [if_neg (by omega), if_neg (by omega)]; exact Int.compare_eq_gt.2 (h2.2 h)
theorem FH.self {X : Nat} {a : Int} (hX : FH X a) : FloatKind.f64.format.order X X = some .eq := by
  rw [hX.order hX, if_neg (Int.lt_irrefl _), if_pos rfl]

theorem mIsNaN_any {X : Nat} {a : Int} (hX : FH X a) (w : World) : Calls Tryz.prog 88 #[.float .f64 X] w fun e w' => e = .returned (.bool false) ∧ w = w' := by
  have o1 := hX.self
  clear hX
  go_enter Tryz.func88, Tryz.ntmps88
  go_wp2_with fail
  go_ret
  exact ⟨rfl, rfl⟩
theorem lt_any {X Y : Nat} {a b : Int} (hX : FH X a) (hY : FH Y b) (w : World) : Calls Tryz.prog 52 #[.float .f64 X, .float .f64 Y] w fun e w' => e = .returned (.bool (decide (a < b))) ∧ w = w' := by
  have o1 := hX.order hY
  have N := Lib.hid (mIsNaN_any hX)
  clear hX hY
  obtain ⟨d, hd⟩ : ∃ d, d = decide (a < b) := ⟨_, rfl⟩
  rw [← hd]
  by_cases h : a < b
  · rw [if_pos h] at o1
    rw [decide_eq_true h] at hd
    subst hd
    clear h
    go_enter Tryz.func52, Tryz.ntmps52
    go_wp2_with fail
    go_ret
    exact ⟨rfl, rfl⟩
  · rw [if_neg h] at o1
    rw [decide_eq_false h] at hd
    subst hd
    by_cases h2 : a = b
    · rw [if_pos h2] at o1
      clear h h2
      go_enter Tryz.func52, Tryz.ntmps52
      go_wp2_with fail
      refine (N.out _).mono ?_
      rintro e w' ⟨rfl, rfl⟩
      go_wp2_with fail
      go_ret
      exact ⟨rfl, rfl⟩
    · rw [if_neg h2] at o1
      clear h h2
      go_enter Tryz.func52, Tryz.ntmps52
      go_wp2_with fail
      refine (N.out _).mono ?_
      rintro e w' ⟨rfl, rfl⟩
      go_wp2_with fail
      go_ret
      exact ⟨rfl, rfl⟩
theorem Cmp1_any {X Y : Nat} {a b : Int} (hX : FH X a) (hY : FH Y b) (w : World) : Calls Tryz.prog 51 #[.float .f64 X, .float .f64 Y] w (CmpPost (sgn a b) w) := by
  have o1 := hX.order hY
  have L := Lib.hid (lt_any hX hY)
  clear hX hY
  obtain ⟨s, hs⟩ : ∃ s, s = sgn a b := ⟨_, rfl⟩
  rw [← hs]
  unfold sgn at hs
  by_cases h : a < b
  · rw [if_pos h] at o1 hs
    rw [decide_eq_true h] at L
    subst hs
    clear h
    go_enter Tryz.func51, Tryz.ntmps51
    go_wp2_with fail
    refine (L.out _).mono ?_
    rintro e w' ⟨rfl, rfl⟩
    go_wp2_with fail
    go_ret
    exact ⟨rfl, Below.refl _ _⟩
  · rw [if_neg h] at o1 hs
    rw [decide_eq_false h] at L
    by_cases h2 : a = b
    · rw [if_pos h2] at o1 hs
      subst hs
      clear h h2
      go_enter Tryz.func51, Tryz.ntmps51
      go_wp2_with fail
      refine (L.out _).mono ?_
      rintro e w' ⟨rfl, rfl⟩
      go_wp2_with fail
      go_ret
      exact ⟨rfl, Below.refl _ _⟩
    · rw [if_neg h2] at o1 hs
      subst hs
      clear h h2
      go_enter Tryz.func51, Tryz.ntmps51
      go_wp2_with fail
      refine (L.out _).mono ?_
      rintro e w' ⟨rfl, rfl⟩
      go_wp2_with fail
      go_ret
      exact ⟨rfl, Below.refl _ _⟩

section
variable (f2 f3 f4 f5 f6 f7 f8 : Value)
set_option maxRecDepth 100000 in
theorem binopI_ii (a b : Int) (w : World) : Calls Tryz.prog 49 #[.iface 3 (.int .i64 a), .iface 3 (.int .i64 b), .func (.func 50) #[] #[], f3, f4, f5, f6, f7, f8] w (CmpPost (sgn a b) w) := by
  have M := Lib.hid (cmpInt_any a b)
  generalize sgn a b = s at *
  go_enter Tryz.func49, Tryz.ntmps49
  go_wp2_with fail
  refine (M.out _).mono ?_
  rintro e w' ⟨rfl, hb⟩
  have HB := Lib.hid hb
  clear hb
  go_wp2_with fail
  go_ret
  exact ⟨rfl, HB.out⟩
set_option maxRecDepth 100000 in
theorem binopI_ff {X Y : Nat} {a b : Int} (hX : FH X a) (hY : FH Y b) (w : World) : Calls Tryz.prog 49 #[.iface 47 (.float .f64 X), .iface 47 (.float .f64 Y), f2, .func (.func 51) #[] #[], f4, f5, f6, f7, f8] w (CmpPost (sgn a b) w) := by
  have M := Lib.hid (Cmp1_any hX hY)
  clear hX hY
  generalize sgn a b = s at *
  go_enter Tryz.func49, Tryz.ntmps49
  go_wp2_with fail
  refine (M.out _).mono ?_
  rintro e w' ⟨rfl, hb⟩
  have HB := Lib.hid hb
  clear hb
  go_wp2_with fail
  go_ret
  exact ⟨rfl, HB.out⟩
set_option maxRecDepth 100000 in
theorem binopI_if {n : Int} {Y : Nat} {a b : Int} (hX : FH (FloatKind.f64.nearest n) a) (hY : FH Y b) (w : World) : Calls Tryz.prog 49 #[.iface 3 (.int .i64 n), .iface 47 (.float .f64 Y), f2, .func (.func 51) #[] #[], f4, f5, f6, f7, f8] w (CmpPost (sgn a b) w) := by
  have M := Lib.hid (Cmp1_any hX hY)
  clear hX hY
  generalize sgn a b = s at *
  go_enter Tryz.func49, Tryz.ntmps49
  go_wp2_with fail
  refine (M.out _).mono ?_
  rintro e w' ⟨rfl, hb⟩
  have HB := Lib.hid hb
  clear hb
  go_wp2_with fail
  go_ret
  exact ⟨rfl, HB.out⟩
set_option maxRecDepth 100000 in
theorem binopI_fi {n : Int} {X : Nat} {a b : Int} (hX : FH X a) (hY : FH (FloatKind.f64.nearest n) b) (w : World) : Calls Tryz.prog 49 #[.iface 47 (.float .f64 X), .iface 3 (.int .i64 n), f2, .func (.func 51) #[] #[], f4, f5, f6, f7, f8] w (CmpPost (sgn a b) w) := by
  have M := Lib.hid (Cmp1_any hX hY)
  clear hX hY
  generalize sgn a b = s at *
  go_enter Tryz.func49, Tryz.ntmps49
  go_wp2_with fail
  refine (M.out _).mono ?_
  rintro e w' ⟨rfl, hb⟩
  have HB := Lib.hid hb
  clear hb
  go_wp2_with fail
  go_ret
  exact ⟨rfl, HB.out⟩
set_option maxRecDepth 100000 in
theorem binopI_ss (s t : ByteArray) (w : World) : Calls Tryz.prog 49 #[.iface 9 (.string s), .iface 9 (.string t), f2, f3, f4, .func (.func 54) #[] #[], f6, f7, f8] w (CmpPost (cmpB s t) w) := by
  have M := Lib.hid (cmpStr_any s t)
  generalize cmpB s t = r at *
  go_enter Tryz.func49, Tryz.ntmps49
  go_wp2_with fail
  refine (M.out _).mono ?_
  rintro e w' ⟨rfl, hb⟩
  have HB := Lib.hid hb
  clear hb
  go_wp2_with fail
  go_ret
  exact ⟨rfl, HB.out⟩
set_option maxRecDepth 100000 in
theorem binopI_aa (x y : Value) (c : Int) (w : World) (h : Calls Tryz.prog 55 #[x, y] w (CmpPost c w)) : Calls Tryz.prog 49 #[.iface 48 x, .iface 48 y, f2, f3, f4, f5, .func (.func 55) #[] #[], f7, f8] w (CmpPost c w) := by
  have M := Lib.hid h
  clear h
  go_enter Tryz.func49, Tryz.ntmps49
  go_wp2_with fail
  refine M.out.mono ?_
  rintro e w' ⟨rfl, hb⟩
  have HB := Lib.hid hb
  clear hb
  go_wp2_with fail
  go_ret
  exact ⟨rfl, HB.out⟩
set_option maxRecDepth 100000 in
theorem binopI_mm (x y : Value) (c : Int) (w : World) (h : Calls Tryz.prog 56 #[x, y] w (CmpPost c w)) : Calls Tryz.prog 49 #[.iface 51 x, .iface 51 y, f2, f3, f4, f5, f6, .func (.func 56) #[] #[], f8] w (CmpPost c w) := by
  have M := Lib.hid h
  clear h
  go_enter Tryz.func49, Tryz.ntmps49
  go_wp2_with fail
  refine M.out.mono ?_
  rintro e w' ⟨rfl, hb⟩
  have HB := Lib.hid hb
  clear hb
  go_wp2_with fail
  go_ret
  exact ⟨rfl, HB.out⟩
end

theorem sgn_two (a b : Int) : sgn (2 * a) (2 * b) = sgn a b := by unfold sgn; split <;> split <;> (try split) <;> (try split) <;> omega
/-- Two numbers. -/
theorem binopI_num {k r : Kd} {a b : Int} (hk : k.is a) (hr : r.is b) (fa : Fits53 a) (fb : Fits53 b) (f4 f5 f6 f7 f8 : Value) (w : World) : Calls Tryz.prog 49 #[k.val, r.val, .func (.func 50) #[] #[], .func (.func 51) #[] #[], f4, f5, f6, f7, f8] w (CmpPost (sgn a b) w) := by
  cases k with
  | int n =>
    have ea : a = 2 * n := hk
    cases r with
    | int m =>
      have eb : b = 2 * m := hr
      rw [ea, eb, sgn_two]
      exact binopI_ii _ f4 f5 f6 f7 f8 n m w
    | float Y => exact binopI_if _ f4 f5 f6 f7 f8 (show FH _ a by rw [ea]; exact nearest_whole (by rw [← ea]; exact fa.fits)) hr w
    | _ => exact hr.elim
  | float X =>
    cases r with
    | int m =>
      have eb : b = 2 * m := hr
      exact binopI_fi _ f4 f5 f6 f7 f8 hk (show FH _ b by rw [eb]; exact nearest_whole (by rw [← eb]; exact fb.fits)) w
    | float Y => exact binopI_ff _ f4 f5 f6 f7 f8 hk hr w
    | _ => exact hr.elim
  | _ => exact hk.elim

theorem Compare_hands {v1 v2 : Value} {c : Int} {w : World} (h : ∀ f4, Calls Tryz.prog 49 #[v1, v2, .func (.func 50) #[] #[], .func (.func 51) #[] #[], f4, .func (.func 54) #[] #[], .func (.func 55) #[] #[], .func (.func 56) #[] #[], .func (.func 58) #[] #[]] w (CmpPost c w)) :
    Calls Tryz.prog 36 #[v1, v2] w (CmpPost c w) := by
  have H := Lib.hid h
  clear h
  go_enter Tryz.func36, Tryz.ntmps36
  go_wp2_with fail
  refine (H.out _).mono ?_
  rintro e w' ⟨rfl, hb⟩
  have HB := Lib.hid hb
  clear hb
  go_wp2_with fail
  go_ret
  exact ⟨rfl, HB.out⟩
end Go.Proofs.YtofpdcjgakmlnaaGreatDoor

namespace Go.Proofs.YtofpdcjgakmlnaaGreatDoor
open Go.RowKit Ieee

/-- Two of kinds that are held against one another by kind alone. -/
def Kd.falls : Kd → Kd → Bool
  | .int _, .int _ => false
  | .int _, .float _ => false
  | .float _, .int _ => false
  | .float _, .float _ => false
  | .str _, .str _ => false
  | .list .., .list .. => false
  | .map _, .map _ => false
  | _, _ => true
set_option maxRecDepth 100000 in
set_option maxHeartbeats 4000000 in
theorem binopI_x (k r : Kd) (h : k.falls r = true) (f2 f3 f4 f5 f6 f7 : Value) (w : World) : Calls Tryz.prog 49 #[k.val, r.val, f2, f3, f4, f5, f6, f7, .func (.func 58) #[] #[]] w (CmpPost (sgn k.rank r.rank) w) := by
  have A := Lib.hid (Cmp4_any k r)
  obtain ⟨s, hs⟩ : ∃ s, s = sgn k.rank r.rank := ⟨_, rfl⟩
  rw [← hs] at A ⊢
  clear hs
  cases k <;> cases r <;> simp only [Kd.falls, Bool.false_eq_true] at h <;> clear h
  all_goals
    unfold Kd.val at *
    go_enter Tryz.func49, Tryz.ntmps49
    go_wp2_with fail
    refine (A.out _).mono ?_
    rintro e w' ⟨rfl, hb⟩
    have HB := Lib.hid hb
    clear hb
    go_wp2_with fail
    go_ret
    exact ⟨rfl, HB.out⟩
end Go.Proofs.YtofpdcjgakmlnaaGreatDoor
