/- What a function answers: a value, an error, or nothing that is asked. -/
import Derived.Test.YtjannccgfmclhaaGreatDoorTypes
import Derived.Test.YtjannccgfmclhaaGreatDoorToGoAll
namespace Go.Proofs.YtjannccgfmclhaaGreatDoor
open Go.RowKit

/-- The block of a map that reads as an object, entry by entry. -/
theorem GR.mapAt {w : World} {S : Nat → Prop} {m : List (ByteArray × G)} {v : Value} (h : GR w S (.obj m) v) :
    ∃ b vs, v = .iface 52 (.map (some b)) ∧ S b ∧ vs.length = m.length ∧ MapAt w b ((m.map (·.1)).zip vs) ∧ ∀ i (_ : i < m.length) (h : i < vs.length), GR w S m[i].2 vs[i] := by
  rw [GR] at h
  obtain ⟨⟨b, es, c, rfl, h1, h2, h3, h4, h5, h6⟩, _, h8⟩ := h
  have hent : entsOf w (.iface 52 (.map (some b))) = es := by unfold entsOf blockOf; simp only [h2]
  rw [hent] at h8
  refine ⟨b, es.toList.map (·.val), rfl, h1, by simp [h4], ⟨es, c, h2, h3, ?_, ?_⟩, fun i hi hx => ?_⟩
  · apply List.ext_getElem
    · simp [h4]
    · intro i hi hj
      have hi1 : i < es.size := by simpa using hi
      have hi2 : i < m.length := by omega
      have := h6 i hi2 hi1
      simp [this]
  · rw [List.map_fst_zip (by simp [h4])]; exact h5
  · have hi1 : i < es.size := by omega
    obtain ⟨e, he, hg⟩ := h8 i (by simpa [G.ents] using hi)
    have : es[i] = e := by simpa [hi1] using he
    simp [this, G.ents] at hg ⊢
    exact hg

theorem zeroAny (w : World) : (zeroValue 20).run Tryz.prog w = .ok .nilIface w := by kernel_rfl

/-- Whether a key is among these. -/
def among (s : ByteArray) (l : List ByteArray) : Bool := l.any fun x => x.data == s.data
theorem among_iff (s : ByteArray) (l : List ByteArray) : among s l = true ↔ s ∈ l := by
  simp only [among, List.any_eq_true, beq_iff_eq]
  constructor
  · rintro ⟨x, hx, h⟩; cases x; cases s; cases h; exact hx
  · intro h; exact ⟨s, h, rfl⟩
theorem among_true {s : ByteArray} {l : List ByteArray} (h : s ∈ l) : among s l = true := (among_iff s l).2 h
theorem among_false {s : ByteArray} {l : List ByteArray} (h : s ∉ l) : among s l = false := by
  cases hh : among s l with
  | false => rfl
  | true => exact absurd ((among_iff s l).1 hh) h

/-- What a function answers; silent where none is asked. -/
inductive Out where
  | silent
  | raises
  | value (j : J)

/-- How a door says its outcome. -/
def Out.how : Out → Int | .silent => 2 | .raises => 1 | .value _ => 0

/-- An error value of the package. -/
def IsErr (v : Value) : Prop := ∃ t u, v = .iface t u ∧ ∀ w, (Instr.typeAssert (.iface t u) 20 56 true).run Tryz.prog w = .ok (.tuple #[.iface t u, .bool true]) w

/-- What a function of the package gives: an error, or a value. -/
def GOut (w : World) (o : Out) (e : Ending) (w' : World) : Prop :=
  match o with
  | .silent => True
  | .raises => ∃ v, e = .returned v ∧ IsErr v ∧ Below w.heap.size w w'
  | .value j => ∃ v, e = .returned v ∧ GR w' (New w.heap.size w') j.g v ∧ Below w.heap.size w w'

theorem j_num (h : Int) : (J.num h).g = if h % 2 = 0 then .int (h / 2) else .float (fb h) := by rw [J.g]
theorem j_bool (b : Bool) : (J.bool b).g = .bool b := by rw [J.g]
theorem j_str (s : ByteArray) : (J.str s).g = .str s := by rw [J.g]
theorem j_null : J.null.g = .null := by rw [J.g]
theorem out_bool (w w' : World) (b : Bool) (hb : Below w.heap.size w w') : GOut w (.value (.bool b)) (.returned (.iface 4 (.bool b))) w' :=
  ⟨_, rfl, GR.leaf (by rw [j_bool]; exact rfl) (by rw [j_bool]; rfl) (by rw [j_bool]; rfl), hb⟩

/-- What has answers. -/
def hasOut : J → J → Out
  | .obj m, .str s => .value (.bool (among s (m.map fun x : ByteArray × J => x.1)))
  | .arr l, .num h => if h % 2 = 0 then .value (.bool (decide (0 ≤ h / 2 ∧ h / 2 < l.length))) else .silent
  | .null, _ => .silent
  | _, _ => .raises

end Go.Proofs.YtjannccgfmclhaaGreatDoor
