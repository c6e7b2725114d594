/- What it means that the six cells of an impl.Value read as a JSON value, kept where the blocks that it leads to are kept. -/
import Derived.WalkKit
import Derived.Below
namespace Go.Proofs.YtbdciilkapgfjaaGreatDoor
open Go.RowKit

/-- A JSON value of plain data: 'num' bears twice the number. -/
inductive J where
  | null
  | bool (b : Bool)
  | num (h : Int)
  | str (s : ByteArray)
  | arr (l : List J)
  | obj (m : List (ByteArray × J))

/-- The six cells of an impl.Value. -/
structure VC where
  k : Int
  h : Int
  s : ByteArray
  la : Option Addr
  ll : Nat
  lc : Nat
  ka : Option Addr
  kl : Nat
  kc : Nat
  va : Option Addr
  vl : Nat
  vc : Nat

def VC.arr (c : VC) : Array Value := #[.int .i64 c.k, .int .i64 c.h, .string c.s, .slice c.la c.ll c.lc, .slice c.ka c.kl c.kc, .slice c.va c.vl c.vc]
def VC.val (c : VC) : Value := .agg c.arr

/-- Six cells in a row. -/
structure At6 (w : World) (b o : Nat) (c : VC) : Prop where
  c0 : w.cell? ⟨b, o, none⟩ = some (.int .i64 c.k)
  c1 : w.cell? ⟨b, o + 1, none⟩ = some (.int .i64 c.h)
  c2 : w.cell? ⟨b, o + 2, none⟩ = some (.string c.s)
  c3 : w.cell? ⟨b, o + 3, none⟩ = some (.slice c.la c.ll c.lc)
  c4 : w.cell? ⟨b, o + 4, none⟩ = some (.slice c.ka c.kl c.kc)
  c5 : w.cell? ⟨b, o + 5, none⟩ = some (.slice c.va c.vl c.vc)

def J.kind : J → Int
  | .null => 0
  | .bool b => if b then 2 else 1
  | .num _ => 3
  | .str _ => 4
  | .arr _ => 5
  | .obj _ => 6
def J.half : J → Int | .num h => h | _ => 0
def J.text : J → ByteArray | .str s => s | _ => ByteArray.empty
def J.list : J → List J | .arr l => l | _ => []
def J.ents : J → List (ByteArray × J) | .obj m => m | _ => []

/-- The plain cells of c are those of j. -/
structure Head (j : J) (c : VC) : Prop where
  k : c.k = j.kind
  h : c.h = j.half
  s : c.s = j.text
  ll : c.ll = j.list.length
  kl : c.kl = j.ents.length
  vl : c.vl = j.ents.length
  lc : c.ll ≤ c.lc
  kc : c.kl ≤ c.kc
  vc : c.vl ≤ c.vc
  ln : c.la = none → c.lc = 0
  kn : c.ka = none → c.kc = 0
  vn : c.va = none → c.vc = 0

theorem sizeOf_list (j : J) {i : Nat} (h : i < j.list.length) : SizeOf.sizeOf j.list[i] < SizeOf.sizeOf j := by
  have := List.sizeOf_lt_of_mem (List.getElem_mem (l := j.list) h)
  cases j with
  | arr l => simp [J.list] at this ⊢; omega
  | _ => simp [J.list] at h
theorem sizeOf_ents (j : J) {i : Nat} (h : i < j.ents.length) : SizeOf.sizeOf j.ents[i].2 < SizeOf.sizeOf j := by
  have h1 := List.sizeOf_lt_of_mem (List.getElem_mem (l := j.ents) h)
  have h2 : SizeOf.sizeOf j.ents[i].2 < SizeOf.sizeOf j.ents[i] := by cases j.ents[i]; simp; omega
  cases j with
  | obj m => simp [J.ents] at h1 h2 ⊢; omega
  | _ => simp [J.ents] at h

/-- c reads as j in w; all that it leads to lies in blocks of S. -/
def VR (w : World) (S : Nat → Prop) (j : J) (c : VC) : Prop :=
  Head j c ∧ (∀ i (_ : i < j.list.length), ∃ b o x, c.la = some ⟨b, o, none⟩ ∧ S b ∧ At6 w b (o + i * 6) x ∧ VR w S j.list[i] x) ∧
    (∀ i (_ : i < j.ents.length), ∃ b o, c.ka = some ⟨b, o, none⟩ ∧ S b ∧ w.cell? ⟨b, o + i, none⟩ = some (.string j.ents[i].1)) ∧
    ∀ i (_ : i < j.ents.length), ∃ b o x, c.va = some ⟨b, o, none⟩ ∧ S b ∧ At6 w b (o + i * 6) x ∧ VR w S j.ents[i].2 x
termination_by SizeOf.sizeOf j
decreasing_by
  · exact sizeOf_list j ‹_›
  · exact sizeOf_ents j ‹_›

/-- The blocks of S are in w' as in w. -/
def Same (S : Nat → Prop) (w w' : World) : Prop := ∀ b, S b → w'.heap[b]? = w.heap[b]?
theorem Same.of_below {B : Nat} {w w' : World} (h : Below B w w') : Same (· < B) w w' := fun b hb => h.block b hb
theorem Same.refl (S : Nat → Prop) (w : World) : Same S w w := fun _ _ => rfl
theorem Same.cell {S : Nat → Prop} {w w' : World} (h : Same S w w') {b o : Nat} (hb : S b) : w'.cell? ⟨b, o, none⟩ = w.cell? ⟨b, o, none⟩ := World.cell?_of_block (a := ⟨b, o, none⟩) (h b hb)

theorem At6.same {w w' : World} {b o : Nat} {c : VC} (h : At6 w b o c) (hb : w'.heap[b]? = w.heap[b]?) : At6 w' b o c :=
  ⟨(World.cell?_of_block (a := ⟨b, o, none⟩) hb).trans h.c0, (World.cell?_of_block (a := ⟨b, o + 1, none⟩) hb).trans h.c1, (World.cell?_of_block (a := ⟨b, o + 2, none⟩) hb).trans h.c2,
   (World.cell?_of_block (a := ⟨b, o + 3, none⟩) hb).trans h.c3, (World.cell?_of_block (a := ⟨b, o + 4, none⟩) hb).trans h.c4, (World.cell?_of_block (a := ⟨b, o + 5, none⟩) hb).trans h.c5⟩
theorem At6.below {w w' : World} {B b o : Nat} {c : VC} (h : At6 w b o c) (hb : Below B w w') (hlt : b < B) : At6 w' b o c := h.same (hb.block b hlt)

theorem VR.head {w : World} {S : Nat → Prop} {j : J} {c : VC} (h : VR w S j c) : Head j c := by rw [VR] at h; exact h.1

/-- A reading carried to another world and a wider set. -/
theorem VR.go {w w' : World} {S S' : Nat → Prop} (hb : Same S w w') (hS : ∀ b, S b → S' b) {j : J} {c : VC} (h : VR w S j c) : VR w' S' j c := by
  rw [VR] at h ⊢
  refine ⟨h.1, fun i hi => ?_, fun i hi => ?_, fun i hi => ?_⟩
  · obtain ⟨b, o, x, h1, h2, h3, h4⟩ := h.2.1 i hi
    exact ⟨b, o, x, h1, hS b h2, h3.same (hb b h2), VR.go hb hS h4⟩
  · obtain ⟨b, o, h1, h2, h3⟩ := h.2.2.1 i hi
    exact ⟨b, o, h1, hS b h2, (hb.cell h2).trans h3⟩
  · obtain ⟨b, o, x, h1, h2, h3, h4⟩ := h.2.2.2 i hi
    exact ⟨b, o, x, h1, hS b h2, h3.same (hb b h2), VR.go hb hS h4⟩
termination_by SizeOf.sizeOf j
decreasing_by
  · exact sizeOf_list j hi
  · exact sizeOf_ents j hi

theorem VR.mono {w : World} {S S' : Nat → Prop} (hS : ∀ b, S b → S' b) {j : J} {c : VC} (h : VR w S j c) : VR w S' j c := h.go (Same.refl S w) hS

/-- Block N is a box that holds c. -/
def Box (w : World) (N : Nat) (c : VC) : Prop := w.heap[N]? = some (.cells c.arr 26 (0, 0))
section
variable {w : World} {N : Nat} {c : VC}
theorem Box.c0 (h : Box w N c) : w.cell? ⟨N, 0, none⟩ = some (.int .i64 c.k) := by simp [World.cell?, show w.heap[N]? = _ from h, VC.arr]
theorem Box.c1 (h : Box w N c) : w.cell? ⟨N, 1, none⟩ = some (.int .i64 c.h) := by simp [World.cell?, show w.heap[N]? = _ from h, VC.arr]
theorem Box.c2 (h : Box w N c) : w.cell? ⟨N, 2, none⟩ = some (.string c.s) := by simp [World.cell?, show w.heap[N]? = _ from h, VC.arr]
theorem Box.c3 (h : Box w N c) : w.cell? ⟨N, 3, none⟩ = some (.slice c.la c.ll c.lc) := by simp [World.cell?, show w.heap[N]? = _ from h, VC.arr]
theorem Box.c4 (h : Box w N c) : w.cell? ⟨N, 4, none⟩ = some (.slice c.ka c.kl c.kc) := by simp [World.cell?, show w.heap[N]? = _ from h, VC.arr]
theorem Box.c5 (h : Box w N c) : w.cell? ⟨N, 5, none⟩ = some (.slice c.va c.vl c.vc) := by simp [World.cell?, show w.heap[N]? = _ from h, VC.arr]
theorem Box.fr (h : Box w N c) (o : Nat) : w.frozen? ⟨N, o, none⟩ = false := by simp [World.frozen?, show w.heap[N]? = _ from h]
theorem Box.lt (h : Box w N c) : N < w.heap.size := by
  rcases Nat.lt_or_ge N w.heap.size with h' | h'
  · exact h'
  · rw [Box, Array.getElem?_eq_none h'] at h; cases h
theorem Box.kept {w' : World} {b : Nat} (h : Box w N c) (hg : w.grownBy w' (some b)) (hne : N ≠ b) : Box w' N c := (hg.block N h.lt (by simp; omega)).trans h
theorem Box.below {w' : World} {B : Nat} (h : Box w N c) (hg : Below B w w') (hlt : N < B) : Box w' N c := (hg.block N hlt).trans h
theorem Box.at6 (h : Box w N c) : At6 w N 0 c := ⟨h.c0, h.c1, h.c2, h.c3, h.c4, h.c5⟩
theorem box_alloc (w : World) (c : VC) : Box (w.alloc (.cells c.arr 26)) w.heap.size c := by
  show (w.heap.push _)[w.heap.size]? = _
  simp
end
end Go.Proofs.YtbdciilkapgfjaaGreatDoor
