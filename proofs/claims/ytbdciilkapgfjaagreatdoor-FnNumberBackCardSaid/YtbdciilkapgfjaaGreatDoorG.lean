/- A right JSON value as the package takes it, and how such a value lies in memory. -/
import Derived.Test.YtbdciilkapgfjaaGreatDoorHeap
import Derived.Test.YtbdciilkapgfjaaGreatDoorFloat
namespace Go.Proofs.YtbdciilkapgfjaaGreatDoor
open Go.RowKit

/-- A right JSON value. -/
def JOK (j : J) : Prop :=
  (-18014398509481984 ≤ j.half ∧ j.half ≤ 18014398509481984 ∧ (j.half % 2 = 0 ∨ (-9007199254740992 < j.half ∧ j.half < 9007199254740992))) ∧
    j.text.size ≤ 1000000 ∧ j.list.length ≤ 400 ∧ j.ents.length ≤ 400 ∧ (∀ i (_ : i < j.list.length), JOK j.list[i]) ∧ (∀ i (_ : i < j.ents.length), j.ents[i].1.size ≤ 2000) ∧
    (∀ i (_ : i + 1 < j.ents.length), Op.bytesLess j.ents[i].1.toList j.ents[i + 1].1.toList = true) ∧ ∀ i (_ : i < j.ents.length), JOK j.ents[i].2
termination_by SizeOf.sizeOf j
decreasing_by
  · exact sizeOf_list j ‹_›
  · exact sizeOf_ents j ‹_›

/-- A value as the package has it. -/
inductive G where
  | null
  | bool (b : Bool)
  | int (n : Int)
  | float (bits : Nat)
  | str (s : ByteArray)
  | arr (l : List G)
  | obj (m : List (ByteArray × G))

def G.list : G → List G | .arr l => l | _ => []
def G.ents : G → List (ByteArray × G) | .obj m => m | _ => []
theorem G.sizeOf_list (g : G) {i : Nat} (h : i < g.list.length) : SizeOf.sizeOf g.list[i] < SizeOf.sizeOf g := by
  have := List.sizeOf_lt_of_mem (List.getElem_mem (l := g.list) h)
  cases g with
  | arr l => simp [G.list] at this ⊢; omega
  | _ => simp [G.list] at h
theorem G.sizeOf_ents (g : G) {i : Nat} (h : i < g.ents.length) : SizeOf.sizeOf g.ents[i].2 < SizeOf.sizeOf g := by
  have h1 := List.sizeOf_lt_of_mem (List.getElem_mem (l := g.ents) h)
  have h2 : SizeOf.sizeOf g.ents[i].2 < SizeOf.sizeOf g.ents[i] := by cases g.ents[i]; simp; omega
  cases g with
  | obj m => simp [G.ents] at h1 h2 ⊢; omega
  | _ => simp [G.ents] at h

/-- The entries of a map's block are well laid: stamps all different, all of the past. -/
structure Stamped (es : Array MapEntry) (clock : Nat) : Prop where
  born : ∀ e ∈ es.toList, e.born < clock
  nodup : (es.toList.map (·.born)).Nodup

/-- The interface value v is g itself, but for what it leads to. -/
def GHead (w : World) (S : Nat → Prop) (g : G) (v : Value) : Prop :=
  match g with
  | .null => v = .nilIface
  | .bool b => v = .iface 4 (.bool b)
  | .int n => v = .iface 3 (.int .i64 n)
  | .float x => v = .iface 39 (.float .f64 x)
  | .str s => v = .iface 9 (.string s)
  | .arr l => ∃ a, v = .iface 40 (.slice a l.length l.length)
  | .obj m => ∃ b es clock, v = .iface 43 (.map (some b)) ∧ S b ∧ w.heap[b]? = some (.map es clock) ∧ Stamped es clock ∧ es.size = m.length ∧ (m.map (·.1)).Nodup ∧
      ∀ i (_ : i < m.length) (h : i < es.size), es[i].key = .string m[i].1

/-- The slice that an interface value holds, or a map's block. -/
def sliceOf : Value → Option Addr | .iface _ (.slice a _ _) => a | _ => none
def blockOf : Value → Nat | .iface _ (.map (some b)) => b | _ => 0
def entsOf (w : World) (v : Value) : Array MapEntry := match w.heap[blockOf v]? with | some (.map es _) => es | _ => #[]

/-- v reads as g in w; all that it leads to lies in blocks of S. -/
def GR (w : World) (S : Nat → Prop) (g : G) (v : Value) : Prop :=
  GHead w S g v ∧ (∀ i (_ : i < g.list.length), ∃ b o x, sliceOf v = some ⟨b, o, none⟩ ∧ S b ∧ w.cell? ⟨b, o + i, none⟩ = some x ∧ w.frozen? ⟨b, o + i, none⟩ = false ∧ GR w S g.list[i] x) ∧
    ∀ i (_ : i < g.ents.length), ∃ e, (entsOf w v)[i]? = some e ∧ GR w S g.ents[i].2 e.val
termination_by SizeOf.sizeOf g
decreasing_by
  · exact g.sizeOf_list ‹_›
  · exact g.sizeOf_ents ‹_›

theorem GHead.go {w w' : World} {S S' : Nat → Prop} (hb : Same S w w') (hS : ∀ b, S b → S' b) {g : G} {v : Value} (h : GHead w S g v) : GHead w' S' g v ∧ (∀ i, i < g.ents.length → entsOf w' v = entsOf w v) := by
  cases g with
  | obj m =>
    obtain ⟨b, es, clock, rfl, h1, h2, h3⟩ := h
    have := hb b h1
    refine ⟨⟨b, es, clock, rfl, hS b h1, this.trans h2, h3⟩, fun _ _ => ?_⟩
    unfold entsOf blockOf
    simp only [this]
  | _ => exact ⟨h, fun i hi => absurd hi (by simp [G.ents])⟩

theorem GR.go {w w' : World} {S S' : Nat → Prop} (hb : Same S w w') (hS : ∀ b, S b → S' b) {g : G} {v : Value} (h : GR w S g v) : GR w' S' g v := by
  rw [GR] at h ⊢
  have h0 := h.1.go hb hS
  refine ⟨h0.1, fun i hi => ?_, fun i hi => ?_⟩
  · obtain ⟨b, o, x, h1, h2, h3, hf, h4⟩ := h.2.1 i hi
    exact ⟨b, o, x, h1, hS b h2, (hb.cell h2).trans h3, (World.frozen?_of_block (a := ⟨b, o + i, none⟩) (hb b h2)).trans hf, GR.go hb hS h4⟩
  · obtain ⟨e, h1, h2⟩ := h.2.2 i hi
    exact ⟨e, by rw [h0.2 i hi]; exact h1, GR.go hb hS h2⟩
termination_by SizeOf.sizeOf g
decreasing_by
  · exact g.sizeOf_list hi
  · exact g.sizeOf_ents hi

theorem GR.mono {w : World} {S S' : Nat → Prop} (hS : ∀ b, S b → S' b) {g : G} {v : Value} (h : GR w S g v) : GR w S' g v := h.go (Same.refl S w) hS

theorem GR.head {w : World} {S : Nat → Prop} {g : G} {v : Value} (h : GR w S g v) : GHead w S g v := by rw [GR] at h; exact h.1
/-- Nil, or a type and a value. -/
theorem GR.form {w : World} {S : Nat → Prop} {g : G} {v : Value} (h : GR w S g v) : v = .nilIface ∨ ∃ t u, v = .iface t u := by
  have h := h.head
  cases g with
  | null => exact Or.inl h
  | bool b => exact Or.inr ⟨_, _, h⟩
  | int n => exact Or.inr ⟨_, _, h⟩
  | float x => exact Or.inr ⟨_, _, h⟩
  | str s => exact Or.inr ⟨_, _, h⟩
  | arr l => obtain ⟨a, h⟩ := h; exact Or.inr ⟨_, _, h⟩
  | obj m => obtain ⟨b, es, clock, h, _⟩ := h; exact Or.inr ⟨_, _, h⟩

/-- A JSON value as the package takes it. -/
def J.g : J → G
  | .null => .null
  | .bool b => .bool b
  | .num h => if h % 2 = 0 then .int (h / 2) else .float (fb h)
  | .str s => .str s
  | .arr l => .arr (l.attach.map fun x => x.1.g)
  | .obj m => .obj (m.attach.map fun x => (x.1.1, x.1.2.g))
termination_by j => SizeOf.sizeOf j
decreasing_by
  · have := List.sizeOf_lt_of_mem x.2; simp; omega
  · have h1 := List.sizeOf_lt_of_mem x.2
    have h2 : SizeOf.sizeOf x.1.2 < SizeOf.sizeOf x.1 := by cases x.1; simp; omega
    simp; omega
theorem J.g_arr (l : List J) : (J.arr l).g = .arr (l.map J.g) := by rw [J.g]; simp
theorem J.g_obj (m : List (ByteArray × J)) : (J.obj m).g = .obj (m.map fun x => (x.1, x.2.g)) := by
  rw [J.g]; congr 1
  simp only [List.map_attach_eq_pmap, List.pmap_eq_map]
end Go.Proofs.YtbdciilkapgfjaaGreatDoor
