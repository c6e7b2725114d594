/- A part of the proof. -/
import Derived.Test.YtjannccgfmclhaaGreatDoorFromAll
import Derived.Test.YtjannccgfmclhaaGreatDoorToGoAll
namespace Go.Proofs.YtjannccgfmclhaaGreatDoor
open Go.RowKit

@[go_sem] theorem as_f0err_error (v : Value) (w : World) : (Instr.typeAssert (.iface 69 v) 20 56 true).run Tryz.prog w = .ok (.tuple #[.iface 69 v, .bool true]) w := run_typeAssert_hasB Tryz.underlying56 (by kernel_rfl) v 20 w

/-- What a function of the package gives: an error, or a value in blocks of S and new memory. -/
def GIn (S : Nat → Prop) (w : World) (o : Out) (e : Ending) (w' : World) : Prop :=
  match o with
  | .silent => True
  | .raises => ∃ v, e = .returned v ∧ IsErr v ∧ Below w.heap.size w w'
  | .value j => ∃ v, e = .returned v ∧ JR w' (fun b => S b ∨ New w.heap.size w' b) j v ∧ Below w.heap.size w w'

/-- Values of the package in a row that a call owns, each a reading in blocks of S. -/
def ARow (lo : Nat) (S : Nat → Prop) (l : List J) (v : Value) (xs : List Value) (w : World) : Prop :=
  w.ownsRow lo 20 1 v xs.length xs ∧ xs.length = l.length ∧ ∀ i (_ : i < l.length) (h : i < xs.length), JR w S l[i] xs[i]

theorem ARow.jr {lo : Nat} {S : Nat → Prop} {l : List J} {a : Option Addr} {n cap : Nat} {xs : List Value} {w : World} (h : ARow lo S l (.slice a n cap) xs w) (hn : n = l.length) :
    JR w (fun b => S b ∨ New lo w b) (.arr l) (.iface 40 (.slice a n cap)) := by
  subst hn
  refine JR.of_arr fun i hi => ?_
  have hx : i < xs.length := by have := h.2.1; omega
  obtain ⟨g, cap', e, hg, hlt⟩ := h.1.form (by omega)
  have e' := e
  simp only [Value.slice.injEq] at e'
  obtain ⟨rfl, _, rfl⟩ := e'
  have hc := h.1.cells (g := g) rfl i xs[i] (by simp [hx])
  rw [addr_add] at hc
  exact ⟨g, 0, xs[i], rfl, Or.inr ⟨hg, hlt⟩, hc, (h.2.2 i hi hx).mono (fun b hb => Or.inl hb)⟩

theorem result_in {o : Out} (hok : ∀ j, o = .value j → JW j) (ho : o ≠ .silent) {w w1 : World} {e : Ending} {S : Nat → Prop} (h : GIn S w o e w1) (hS : ∀ b, S b → b < w.heap.size) :
    ∃ v, e = .returned v ∧ Below w.heap.size w w1 ∧ Calls Tryz.prog 17 #[v] w1 fun e w' => ∃ c, e = .returned (resVal c o.how) ∧ (∀ j, o = .value j → VR w' (New w1.heap.size w') j c) ∧ Below w1.heap.size w1 w' := by
  cases o with
  | silent => exact absurd rfl ho
  | raises =>
    obtain ⟨v, rfl, hv, hb⟩ := h
    refine ⟨_, rfl, hb, (result_err v w1 hv).mono ?_⟩
    rintro e w' ⟨rfl, hb1⟩
    exact ⟨_, rfl, (fun j hj => by cases hj), hb1⟩
  | value j =>
    obtain ⟨v, rfl, hG, hb⟩ := h
    refine ⟨_, rfl, hb, (result_any j v w1 _ (hok j rfl) hG (fun b hb' => ?_)).mono ?_⟩
    · rcases hb' with h | h
      · exact Nat.lt_of_lt_of_le (hS b h) hb.size
      · exact h.2
    rintro e w' ⟨c, rfl, hV, hb1⟩
    exact ⟨c, rfl, (fun j hj => by cases hj; exact hV), hb1⟩

/-- A door's result, stored. -/
theorem door_out {o : Out} {w w4 : World} {N lo : Nat} {c : VC} (hz : o ≠ .silent) (hb : Below w.heap.size w w4) (hN : w.heap.size ≤ N) (hlo : N < lo) (hV : ∀ j, o = .value j → VR w4 (New lo w4) j c) :
    DoorOut w o (.returned (resVal c o.how)) (resStored w4 N c o.how) := by
  have hfin : Below w.heap.size w (resStored w4 N c o.how) := resStored_below hb hN
  have hV3 : ∀ j', o = .value j' → VR (resStored w4 N c o.how) (New w.heap.size (resStored w4 N c o.how)) j' c :=
    fun j' hj => (hV j' hj).go (fun b hb => resStored_block (by have := hb.1; omega)) (fun b hb => ⟨by have := hb.1; omega, by rw [resStored_size]; exact hb.2⟩)
  cases o with
  | silent => exact absurd rfl hz
  | raises => exact ⟨_, rfl, hfin⟩
  | value j' => exact ⟨_, rfl, hV3 j' rfl, hfin⟩
end Go.Proofs.YtjannccgfmclhaaGreatDoor

namespace Go.Proofs.YtjannccgfmclhaaGreatDoor
open Go.RowKit

/-- A made row of which the first m have been filled. -/
def fillRow (f : Nat → Value) (m n : Nat) : List Value := (List.range n).map fun i => if i < m then f i else .nilIface
theorem fillRow_len (f : Nat → Value) (m n : Nat) : (fillRow f m n).length = n := by simp [fillRow]
theorem fillRow_zero (f : Nat → Value) (n : Nat) : fillRow f 0 n = List.replicate n .nilIface := by
  apply List.ext_getElem
  · simp [fillRow]
  · intro i h1 h2; simp [fillRow]
theorem fillRow_set (f : Nat → Value) {m n : Nat} : (fillRow f m n).set m (f m) = fillRow f (m + 1) n := by
  apply List.ext_getElem
  · simp [fillRow]
  · intro i h1 h2
    rw [List.getElem_set]
    simp only [fillRow, List.getElem_map, List.getElem_range]
    by_cases e : m = i
    · subst e; simp
    · simp only [e, if_false]
      by_cases h3 : i < m
      · simp [h3, show i < m + 1 by omega]
      · simp [h3, show ¬ i < m + 1 by omega]
theorem fillRow_get (f : Nat → Value) {m n i : Nat} (h : i < m) (hi : i < (fillRow f m n).length) : (fillRow f m n)[i] = f i := by
  simp [fillRow, h]

/-- A row that is filled reads as an array. -/
theorem JR.filled {w : World} {S : Nat → Prop} {N cap : Nat} {f : Nat → Value} {l : List J} (hA : Arr w N 20 (fillRow f l.length l.length)) (hS : S N) (h : ∀ i (_ : i < l.length), JR w S l[i] (f i)) :
    JR w S (.arr l) (.iface 40 (.slice (some ⟨N, 0, none⟩) l.length cap)) := by
  refine JR.of_arr fun i hi => ⟨N, 0, f i, rfl, hS, ?_, h i hi⟩
  have h1 : i < (fillRow f l.length l.length).length := by rw [fillRow_len]; exact hi
  have := hA.cell h1
  rw [fillRow_get f hi h1] at this
  simpa using this
end Go.Proofs.YtjannccgfmclhaaGreatDoor

namespace Go.Proofs.YtjannccgfmclhaaGreatDoor
open Go.RowKit

/-- The keys of an array or object, and its values. -/
def keysJ : J → List J
  | .arr l => (List.range l.length).map fun i : Nat => .num (2 * (i : Int))
  | .obj m => m.map fun p => .str p.1
  | _ => []
def valsJ : J → List J
  | .arr l => l
  | .obj m => m.map (·.2)
  | _ => []
/-- An array or an object. -/
def Holds : J → Prop | .arr _ => True | .obj _ => True | _ => False

theorem keys_vals_len (j : J) : (keysJ j).length = (valsJ j).length := by cases j <;> simp [keysJ, valsJ]
theorem vals_len {j : J} (hj : JOK j) : (valsJ j).length ≤ 400 := by
  rw [JOK] at hj
  cases j with
  | arr l => exact hj.2.2.1
  | obj m => have := hj.2.2.2.1; simpa [valsJ, J.ents] using this
  | _ => simp [valsJ]

theorem JOK.leafs {j : J} (hh : (-18014398509481984 ≤ j.half ∧ j.half ≤ 18014398509481984 ∧ (j.half % 2 = 0 ∨ (-9007199254740992 < j.half ∧ j.half < 9007199254740992)))) (ht : j.text.size ≤ 2000) (hl : j.list = []) (he : j.ents = []) : JOK j := by
  rw [JOK]
  refine ⟨hh, ht, by simp [hl], by simp [he], fun i hi => ?_, fun i hi => ?_, fun i hi => ?_, fun i hi => ?_⟩
  · simp [hl] at hi
  · simp [he] at hi
  · simp [he] at hi
  · simp [he] at hi
theorem JOK.list_of {l : List J} (hl : l.length ≤ 400) (h : ∀ x ∈ l, JOK x) : JOK (.arr l) := by
  rw [JOK]
  refine ⟨by simp [J.half], by simp [J.text, ByteArray.size], hl, by simp [J.ents], fun i hi => h _ (List.getElem_mem _), fun i hi => ?_, fun i hi => ?_, fun i hi => ?_⟩
  · simp [J.ents] at hi
  · simp [J.ents] at hi
  · simp [J.ents] at hi

theorem keys_ok {j : J} (hj : JOK j) : ∀ x ∈ keysJ j, JOK x := by
  intro x hx
  cases j with
  | arr l =>
    have hl : l.length ≤ 400 := by rw [JOK] at hj; exact hj.2.2.1
    obtain ⟨i, hi, rfl⟩ := List.mem_map.1 hx
    have hi' := List.mem_range.1 hi
    exact .leafs (by simp only [J.half]; omega) (by simp [J.text, ByteArray.size]) rfl rfl
  | obj m =>
    rw [JOK] at hj
    obtain ⟨p, hp, rfl⟩ := List.mem_map.1 hx
    obtain ⟨i, hi, rfl⟩ := List.getElem_of_mem hp
    exact .leafs (by simp [J.half]) (by have := hj.2.2.2.2.2.1 i hi; simpa [J.text, J.ents] using this) rfl rfl
  | _ => cases hx
theorem vals_ok {j : J} (hj : JOK j) : ∀ x ∈ valsJ j, JOK x := by
  intro x hx
  cases j with
  | arr l => obtain ⟨i, hi, rfl⟩ := List.getElem_of_mem hx; exact hj.list hi
  | obj m =>
    obtain ⟨p, hp, rfl⟩ := List.mem_map.1 hx
    obtain ⟨i, hi, rfl⟩ := List.getElem_of_mem hp
    exact hj.ents hi
  | _ => cases hx
theorem keys_all {j : J} (hj : JOK j) : JOK (.arr (keysJ j)) := .list_of (by rw [keys_vals_len]; exact vals_len hj) (keys_ok hj)
theorem vals_all {j : J} (hj : JOK j) : JOK (.arr (valsJ j)) := .list_of (vals_len hj) (vals_ok hj)
theorem len_ok {j : J} (hj : JOK j) : JOK (.num (2 * ((valsJ j).length : Int))) := by
  have := vals_len hj
  exact .leafs (by simp only [J.half]; omega) (by simp [J.text, ByteArray.size]) rfl rfl
end Go.Proofs.YtjannccgfmclhaaGreatDoor
