/- A part of the proof. -/
import Derived.Test.YtfgmegfgifeaiaaGreatDoorM20
import Derived.Test.YtfgmegfgifeaiaaGreatDoorZMapD
import Derived.Test.YtfgmegfgifeaiaaGreatDoorZSArr
import Derived.Lib.Builder
namespace Go.Proofs.YtfgmegfgifeaiaaGreatDoor
open Go.RowKit

/-- A bound on a sum of i numbers. -/
def Bnd (i : Nat) : Int := (i : Int) * 9007199254740992
theorem bnd_succ (i : Nat) : Bnd (i + 1) = Bnd i + 9007199254740992 := by unfold Bnd; omega
theorem bnd_pos (i : Nat) : 0 ≤ Bnd i := by unfold Bnd; omega
theorem bnd_le {i : Nat} (h : i ≤ 500) : Bnd i ≤ 4503599627370496000 := by unfold Bnd; omega
theorem Kd.num_mono {k : Kd} {B B' : Int} (h : k.num B) (hB : B ≤ B') : k.num B' := by
  cases k with
  | int n => exact ⟨by have := h.1; omega, by have := h.2; omega⟩
  | float X => exact h
  | _ => exact h.elim

/-- The sum of the first ones, when one more comes. -/
theorem addJ_snoc : ∀ (l : List J) (a x : J), addJ a (l ++ [x]) = match addJ a l with | .value b => plusJ b x | o => o
  | [], a, x => by
    simp only [List.nil_append, addJ]
    cases plusJ a x <;> rfl
  | y :: l, a, x => by
    simp only [List.cons_append, addJ]
    cases plusJ a y with
    | value b => exact addJ_snoc l b x
    | _ => rfl
theorem addJ_take {l : List J} {i : Nat} (h : i < l.length) : addJ .null (l.take (i + 1)) = match addJ .null (l.take i) with | .value b => plusJ b l[i] | o => o := by
  rw [List.take_add_one, List.getElem?_eq_getElem h, Option.toList_some, addJ_snoc]

/-- Where the sum of the first i has come to, v says it, in blocks from lo on and those of S. -/
def Acc (lo : Nat) (S : Nat → Prop) (i : Nat) (o : Out) (v : Value) (W : World) : Prop :=
  match o with
  | .raises => False
  | .silent => ∃ k : Kd, v = k.val ∧ k.num (Bnd i)
  | .value .null => v = .nilIface
  | .value (.bool b) => v = .iface 4 (.bool b)
  | .value (.num a) => ∃ k : Kd, v = k.val ∧ k.num (Bnd i) ∧ k.is a ∧ Fits53 a
  | .value (.str s) => ∃ b, v = .iface 133 (.pointer (some ⟨b, 0, none⟩)) ∧ Lib.BuilderAt 135 5 lo b (.pointer (some ⟨b, 0, none⟩)) (Lib.strCells s) W
  | .value (.arr l) => ∃ a cap xs, v = .iface 58 (.slice a l.length cap) ∧ ARow lo S l (.slice a l.length cap) xs W
  | .value (.obj m) => ∃ b mv, v = .iface 61 (.map (some b)) ∧ lo ≤ b ∧ MapAt W b mv ∧ (mv.map (·.1)).Perm (m.map (·.1)) ∧ ∀ p ∈ m, ∃ x, (p.1, x) ∈ mv ∧ JR W S p.2 x

theorem builder_kept {T e : TypeId} {B b : Nat} {p : Value} {bs : List Value} {w w' : World} {row : Option Nat} (h : Lib.BuilderAt T e B b p bs w) (hg : w.grownBy w' row) (hr : ∀ k, row = some k → k < B) : Lib.BuilderAt T e B b p bs w' := by
  have hlt := h.lt
  obtain ⟨hB, v, hb, hown, hne⟩ := h
  refine ⟨hB, v, (hg.block b hlt (fun e => by have := hr b e.symm; omega)).trans hb, hown.kept hg ?_, hne⟩
  cases hv : v.ownBlock with
  | none => exact .inl rfl
  | some k =>
    refine .inr fun e => ?_
    have h1 := (hown.lt k hv).1
    have h2 := hr k (by rw [← e])
    omega

/-- What is carried where blocks below lo that are none of S are turned alone. -/
theorem Acc.kept {lo : Nat} {S : Nat → Prop} {i : Nat} {o : Out} {v : Value} {W W' : World} {row : Option Nat} (h : Acc lo S i o v W) (hg : W.grownBy W' row) (hr : ∀ k, row = some k → k < lo ∧ ¬ S k) (hS : ∀ b, S b → b < W.heap.size) : Acc lo S i o v W' := by
  have hsame : Same S W W' := fun b hb => hg.block b (hS b hb) (fun e => (hr b e.symm).2 hb)
  cases o with
  | raises => exact h.elim
  | silent => exact h
  | value j =>
    cases j with
    | null => exact h
    | bool b => exact h
    | num a => exact h
    | str s =>
      obtain ⟨b, rfl, hb⟩ := h
      exact ⟨b, rfl, builder_kept hb hg (fun k hk => (hr k hk).1)⟩
    | arr l =>
      obtain ⟨a, cap, xs, rfl, h1, h2, h3⟩ := h
      refine ⟨a, cap, xs, rfl, h1.kept hg ?_, h2, fun i hi hx => (h3 i hi hx).go hsame (fun _ h => h)⟩
      cases hv : (Value.slice a l.length cap).ownBlock with
      | none => exact .inl rfl
      | some k =>
        refine .inr fun e => ?_
        have h1 := (h1.lt k hv).1
        have h2 := (hr k (by rw [← e])).1
        omega
    | obj m =>
      obtain ⟨b, mv, rfl, h1, h2, h3, h4⟩ := h
      refine ⟨b, mv, rfl, h1, h2.same (hg.block b h2.lt (fun e => by have := (hr b e.symm).1; omega)), h3, fun p hp => ?_⟩
      obtain ⟨x, e1, e2⟩ := h4 p hp
      exact ⟨x, e1, e2.go hsame (fun _ h => h)⟩

/-- One more round, with nothing new. -/
theorem Acc.next {lo : Nat} {S : Nat → Prop} {i : Nat} {o : Out} {v : Value} {W : World} (h : Acc lo S i o v W) : Acc lo S (i + 1) o v W := by
  have hb := bnd_succ i
  cases o with
  | raises => exact h.elim
  | silent => obtain ⟨k, e, h1⟩ := h; exact ⟨k, e, Kd.num_mono h1 (by omega)⟩
  | value j =>
    cases j with
    | num a => obtain ⟨k, e, h1, h2⟩ := h; exact ⟨k, e, Kd.num_mono h1 (by omega), h2⟩
    | _ => exact h

/-- What one element looks like. -/
def Elem (j : J) (r : Kd) : Prop :=
  match j with
  | .null => r = .nil
  | .bool b => r = .bool b
  | .num h => r.is h ∧ (∃ B, r.num B)
  | .str s => r = .str s
  | .arr l => ∃ a cap, r = .list a l.length cap
  | .obj _ => ∃ b, r = .map (some b)

theorem elem_kd {w : World} {S : Nat → Prop} {j : J} {x : Value} (hj : JOK j) (h : JR w S j x) : ∃ r : Kd, x = r.val ∧ Elem j r := by
  have hh := h.head
  cases j with
  | null => exact ⟨.nil, hh, rfl⟩
  | bool b => exact ⟨.bool b, hh, rfl⟩
  | num n =>
    have hn := hj.half_ok
    simp only [JHead] at hh
    by_cases he : n % 2 = 0
    · rw [if_pos he] at hh
      exact ⟨.int (n / 2), hh, by show n = 2 * (n / 2); omega, ⟨(n / 2).natAbs, by show _ ∧ _; omega⟩⟩
    · rw [if_neg he] at hh
      have h0 := half_odd (h := n) (by omega) (by have := hn.2.2; omega) (by have := hn.2.2; omega)
      exact ⟨.float (fb n), hh, h0, ⟨0, h0.notNaN⟩⟩
  | str s => exact ⟨.str s, hh, rfl⟩
  | arr l => obtain ⟨a, cap, hh⟩ := hh; exact ⟨.list a l.length cap, hh, ⟨a, cap, rfl⟩⟩
  | obj m => obtain ⟨b, hh⟩ := hh; exact ⟨.map (some b), hh, ⟨b, rfl⟩⟩
theorem NumOk.fits {n : Int} (h : NumOk n) : Fits53 n := h

/-- A sum that comes to a number: the new number. -/
theorem acc_num {lo : Nat} {S : Nat → Prop} {i : Nat} {a c : Int} {k : Kd} {W : World} (hk : k.num (Bnd i + 9007199254740992)) (h : Fits53 (a + c) → k.is (a + c)) : Acc lo S (i + 1) (plusJ (.num a) (.num c)) k.val W := by
  simp only [plusJ]
  have hb := bnd_succ i
  by_cases hn : NumOk (a + c)
  · rw [if_pos hn]
    exact ⟨k, rfl, by rw [hb]; exact hk, h hn, hn⟩
  · rw [if_neg hn]
    exact ⟨k, rfl, by rw [hb]; exact hk⟩
end Go.Proofs.YtfgmegfgifeaiaaGreatDoor
