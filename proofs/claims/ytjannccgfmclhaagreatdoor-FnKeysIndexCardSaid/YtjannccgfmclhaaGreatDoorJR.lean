/- What it means that a value of the package reads as a JSON value, entries in whatever order. -/
import Derived.Test.YtjannccgfmclhaaGreatDoorOut
namespace Go.Proofs.YtjannccgfmclhaaGreatDoor
open Go.RowKit

/-- The interface value v is j itself, but for what it leads to. -/
def JHead (j : J) (v : Value) : Prop :=
  match j with
  | .null => v = .nilIface
  | .bool b => v = .iface 4 (.bool b)
  | .num h => v = if h % 2 = 0 then .iface 3 (.int .i64 (h / 2)) else .iface 50 (.float .f64 (fb h))
  | .str s => v = .iface 9 (.string s)
  | .arr l => ∃ a cap, v = .iface 40 (.slice a l.length cap)
  | .obj _ => ∃ b, v = .iface 52 (.map (some b))

/-- v, a value of the package, reads as j in w, an object's entries in whatever order; all that it leads to lies in blocks of S. -/
def JR (w : World) (S : Nat → Prop) (j : J) (v : Value) : Prop :=
  JHead j v ∧ (∀ i (_ : i < j.list.length), ∃ b o x, sliceOf v = some ⟨b, o, none⟩ ∧ S b ∧ w.cell? ⟨b, o + i, none⟩ = some x ∧ JR w S j.list[i] x) ∧
    ∃ mv : List (ByteArray × Value), (∀ m, j = .obj m → S (blockOf v) ∧ MapAt w (blockOf v) mv ∧ (mv.map (·.1)).Perm (m.map (·.1))) ∧ ∀ i (_ : i < j.ents.length), ∃ x, (j.ents[i].1, x) ∈ mv ∧ JR w S j.ents[i].2 x
termination_by SizeOf.sizeOf j
decreasing_by
  · exact sizeOf_list j ‹_›
  · exact sizeOf_ents j ‹_›

theorem JR.head {w : World} {S : Nat → Prop} {j : J} {v : Value} (h : JR w S j v) : JHead j v := by rw [JR] at h; exact h.1

theorem JR.go {w w' : World} {S S' : Nat → Prop} (hb : Same S w w') (hS : ∀ b, S b → S' b) {j : J} {v : Value} (h : JR w S j v) : JR w' S' j v := by
  rw [JR] at h ⊢
  obtain ⟨h1, h2, mv, h3, h4⟩ := h
  refine ⟨h1, fun i hi => ?_, mv, fun m hm => ?_, fun i hi => ?_⟩
  · obtain ⟨b, o, x, e1, e2, e3, e4⟩ := h2 i hi
    exact ⟨b, o, x, e1, hS b e2, (hb.cell e2).trans e3, JR.go hb hS e4⟩
  · obtain ⟨e1, e2, e3⟩ := h3 m hm
    exact ⟨hS _ e1, e2.same (hb _ e1), e3⟩
  · obtain ⟨x, e1, e2⟩ := h4 i hi
    exact ⟨x, e1, JR.go hb hS e2⟩
termination_by SizeOf.sizeOf j
decreasing_by
  · exact sizeOf_list j hi
  · exact sizeOf_ents j hi
theorem JR.mono {w : World} {S S' : Nat → Prop} (hS : ∀ b, S b → S' b) {j : J} {v : Value} (h : JR w S j v) : JR w S' j v := h.go (Same.refl S w) hS

/-- Nil, or a type and a value. -/
theorem JR.form {w : World} {S : Nat → Prop} {j : J} {v : Value} (h : JR w S j v) : v = .nilIface ∨ ∃ t u, v = .iface t u := by
  have h := h.head
  cases j with
  | null => exact Or.inl h
  | bool b => exact Or.inr ⟨_, _, h⟩
  | num n => simp only [JHead] at h; split at h <;> exact Or.inr ⟨_, _, h⟩
  | str s => exact Or.inr ⟨_, _, h⟩
  | arr l => obtain ⟨a, cap, h⟩ := h; exact Or.inr ⟨_, _, h⟩
  | obj m => obtain ⟨b, h⟩ := h; exact Or.inr ⟨_, _, h⟩

theorem JR.leaf {w : World} {S : Nat → Prop} {j : J} {v : Value} (h : JHead j v) (hl : j.list = []) (he : ∀ m, j ≠ .obj m) : JR w S j v := by
  rw [JR]
  refine ⟨h, fun i hi => absurd hi (by simp [hl]), [], fun m hm => absurd hm (he m), fun i hi => ?_⟩
  cases j with
  | obj m => exact absurd rfl (he m)
  | _ => simp [J.ents] at hi

/-- What reads as a plain Go value reads so, too. -/
theorem GR.jr {w : World} {S : Nat → Prop} : ∀ (n : Nat) {j : J} {v : Value}, SizeOf.sizeOf j ≤ n → GR w S j.g v → JR w S j v
  | 0, j, v, hn, _ => by cases j <;> simp at hn
  | n + 1, j, v, hn, h => by
    cases j with
    | null => exact .leaf (by have := h.head; rw [J.g] at this; exact this) rfl (fun m hm => by cases hm)
    | bool b => exact .leaf (by have := h.head; rw [J.g] at this; exact this) rfl (fun m hm => by cases hm)
    | num x =>
      refine .leaf ?_ rfl (fun m hm => by cases hm)
      have := h.head
      rw [j_num] at this
      simp only [JHead]
      split
      · rename_i he; rw [if_pos he] at this; exact this
      · rename_i he; rw [if_neg he] at this; exact this
    | str s => exact .leaf (by have := h.head; rw [J.g] at this; exact this) rfl (fun m hm => by cases hm)
    | arr l =>
      rw [J.g_arr] at h
      rw [GR] at h
      rw [JR]
      obtain ⟨h1, h2, _⟩ := h
      refine ⟨by obtain ⟨a, cap, e⟩ := h1; exact ⟨a, cap, by simpa using e⟩, fun i hi => ?_, [], fun m hm => (by cases hm), fun i hi => absurd hi (by simp [J.ents])⟩
      have hi' : i < l.length := hi
      obtain ⟨b, o, x, e1, e2, e3, e4⟩ := h2 i (by simpa [G.list] using hi')
      refine ⟨b, o, x, e1, e2, e3, GR.jr n ?_ (by simpa [G.list, J.list] using e4)⟩
      have := sizeOf_list (.arr l) (i := i) hi'
      show SizeOf.sizeOf l[i] ≤ n
      simp only [J.list] at this
      omega
    | obj m =>
      rw [J.g_obj] at h
      obtain ⟨b, vs, rfl, hS, hlen, hM, hG⟩ := h.mapAt
      rw [JR]
      have e1 : (m.map fun x => (x.1, x.2.g)).map (·.1) = m.map (·.1) := by rw [List.map_map]; rfl
      have hlen' : vs.length = m.length := by simpa using hlen
      refine ⟨⟨b, rfl⟩, fun i hi => absurd hi (by simp [J.list]), ((m.map fun x => (x.1, x.2.g)).map (·.1)).zip vs, fun m' hm' => ?_, fun i hi => ?_⟩
      · cases hm'
        refine ⟨hS, hM, ?_⟩
        rw [List.map_fst_zip (by simp [hlen]), e1]
      · have hi' : i < m.length := hi
        refine ⟨vs[i]'(by omega), ?_, GR.jr n ?_ (by have := hG i (by simpa using hi') (by omega); simpa [J.ents] using this)⟩
        · have hz : i < (((m.map fun x => (x.1, x.2.g)).map (·.1)).zip vs).length := by simp [hlen']; exact hi'
          have := List.getElem_mem hz
          simpa [J.ents] using this
        · have := sizeOf_ents (.obj m) (i := i) hi'
          simp only [J.ents] at this ⊢
          omega

/-- An object: its map's block and entries. -/
theorem JR.obj {w : World} {S : Nat → Prop} {m : List (ByteArray × J)} {v : Value} (h : JR w S (.obj m) v) :
    ∃ b mv, v = .iface 52 (.map (some b)) ∧ S b ∧ MapAt w b mv ∧ (mv.map (·.1)).Perm (m.map (·.1)) ∧ ∀ i (_ : i < m.length), ∃ x, (m[i].1, x) ∈ mv ∧ JR w S m[i].2 x := by
  rw [JR] at h
  obtain ⟨⟨b, rfl⟩, _, mv, h3, h4⟩ := h
  obtain ⟨e1, e2, e3⟩ := h3 m rfl
  exact ⟨b, mv, rfl, e1, e2, e3, h4⟩
theorem JR.of_obj {w : World} {S : Nat → Prop} {m : List (ByteArray × J)} {b : Nat} {mv : List (ByteArray × Value)} (hS : S b) (hM : MapAt w b mv) (hp : (mv.map (·.1)).Perm (m.map (·.1))) (he : ∀ i (_ : i < m.length), ∃ x, (m[i].1, x) ∈ mv ∧ JR w S m[i].2 x) :
    JR w S (.obj m) (.iface 52 (.map (some b))) := by
  rw [JR]
  exact ⟨⟨b, rfl⟩, fun i hi => absurd hi (by simp [J.list]), mv, fun m' hm' => (by cases hm'; exact ⟨hS, hM, hp⟩), he⟩
/-- An array: its elements. -/
theorem JR.arr {w : World} {S : Nat → Prop} {l : List J} {v : Value} (h : JR w S (.arr l) v) :
    ∃ a cap, v = .iface 40 (.slice a l.length cap) ∧ ∀ i (_ : i < l.length), ∃ b o x, a = some ⟨b, o, none⟩ ∧ S b ∧ w.cell? ⟨b, o + i, none⟩ = some x ∧ JR w S l[i] x := by
  rw [JR] at h
  obtain ⟨⟨a, cap, rfl⟩, h2, _⟩ := h
  exact ⟨a, cap, rfl, h2⟩
theorem JR.of_arr {w : World} {S : Nat → Prop} {l : List J} {a : Option Addr} {cap : Nat} (he : ∀ i (_ : i < l.length), ∃ b o x, a = some ⟨b, o, none⟩ ∧ S b ∧ w.cell? ⟨b, o + i, none⟩ = some x ∧ JR w S l[i] x) :
    JR w S (.arr l) (.iface 40 (.slice a l.length cap)) := by
  rw [JR]
  exact ⟨⟨a, cap, rfl⟩, he, [], fun m hm => (by cases hm), fun i hi => absurd hi (by simp [J.ents])⟩
end Go.Proofs.YtjannccgfmclhaaGreatDoor
