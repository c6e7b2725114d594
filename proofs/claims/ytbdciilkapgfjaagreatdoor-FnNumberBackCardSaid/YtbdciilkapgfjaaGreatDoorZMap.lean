/- A Go map with string keys as an association list: look up, found and not, and the store under a new key. -/
import Derived.Test.YtbdciilkapgfjaaGreatDoorProg
import Derived.Test.YtbdciilkapgfjaaGreatDoorM7
import Derived.MapKept
import Derived.ChangeMaps5
namespace Go.Proofs.YtbdciilkapgfjaaGreatDoor
open Go.RowKit Go.MapKept
open Go.ChangeMaps (setBlock)

/-- Block b is a map with just these entries, in the order in which they came. -/
def MapAt (w : World) (b : Nat) (m : List (ByteArray × Value)) : Prop :=
  ∃ es clock, w.heap[b]? = some (.map es clock) ∧ YtbdciilkapgfjaaGreatDoor.Stamped es clock ∧ es.toList.map (fun e => (e.key, e.val)) = m.map (fun p => (Value.string p.1, p.2)) ∧ (m.map (·.1)).Nodup

theorem MapAt.lt {w : World} {b : Nat} {m : List (ByteArray × Value)} (h : MapAt w b m) : b < w.heap.size := by
  obtain ⟨es, c, h, _⟩ := h
  rcases Nat.lt_or_ge b w.heap.size with h' | h'
  · exact h'
  · rw [Array.getElem?_eq_none h'] at h; cases h
theorem MapAt.same {w w' : World} {b : Nat} {m : List (ByteArray × Value)} (h : MapAt w b m) (hs : w'.heap[b]? = w.heap[b]?) : MapAt w' b m := by
  obtain ⟨es, c, h, r⟩ := h
  exact ⟨es, c, hs.trans h, r⟩
theorem MapAt.made (w : World) : MapAt (w.alloc (.map #[] 0)) w.heap.size [] :=
  ⟨#[], 0, heap_alloc_at _ _, ⟨by simp, by simp⟩, rfl, by simp⟩

theorem keys_are {es : Array MapEntry} {m : List (ByteArray × Value)} (h : es.toList.map (fun e => (e.key, e.val)) = m.map (fun p => (Value.string p.1, p.2))) : ∀ x ∈ es.toList, IsKey .string x.key := by
  intro x hx
  have : (x.key, x.val) ∈ m.map (fun p => (Value.string p.1, p.2)) := by rw [← h]; exact List.mem_map.2 ⟨x, hx, rfl⟩
  obtain ⟨p, _, hp⟩ := List.mem_map.1 this
  simp only [Prod.mk.injEq] at hp
  rw [← hp.1]; trivial

theorem entry_at {es : Array MapEntry} {m : List (ByteArray × Value)} (h : es.toList.map (fun e => (e.key, e.val)) = m.map (fun p => (Value.string p.1, p.2))) {j : Nat} {e : MapEntry} (he : es.toList[j]? = some e) :
    ∃ p, m[j]? = some p ∧ e.key = .string p.1 ∧ e.val = p.2 := by
  have h1 : (es.toList.map (fun e => (e.key, e.val)))[j]? = some (e.key, e.val) := by rw [List.getElem?_map, he]; rfl
  rw [h, List.getElem?_map] at h1
  cases hm : m[j]? with
  | none => rw [hm] at h1; cases h1
  | some p => rw [hm] at h1; simp at h1; exact ⟨p, rfl, h1.1.symm, h1.2.symm⟩

section
variable {P : Program} {T K E : TypeId} {w : World} {b : Nat} {m : List (ByteArray × Value)}

/-- A key that is there. -/
theorem MapAt.find_hit (h : MapAt w b m) (hK : P.underlying K = some .string) {s : ByteArray} {v : Value} (hm : (s, v) ∈ m) :
    ∃ es clock j e, w.heap[b]? = some (.map es clock) ∧ (Instr.findKey K (.string s) es.toList).run P w = .ok (some (j, v)) w ∧ es.toList[j]? = some e ∧ e.key = .string s := by
  obtain ⟨es, c, hb, _, he, hn⟩ := h
  rcases findNow_spec (d := .string) (k := .string s) trivial es.toList 0 (keys_are he) with ⟨h1, h2⟩ | ⟨j, e, h1, h2, h3⟩
  · exfalso
    have : (Value.string s, v) ∈ es.toList.map (fun e => (e.key, e.val)) := by rw [he]; exact List.mem_map.2 ⟨_, hm, rfl⟩
    obtain ⟨x, hx, hxe⟩ := List.mem_map.1 this
    simp only [Prod.mk.injEq] at hxe
    exact h2 x hx hxe.1
  · obtain ⟨p, hp, hpk, hpv⟩ := entry_at he h2
    have e1 : p.1 = s := by rw [h3] at hpk; simpa using hpk.symm
    have e2 : p.2 = v := by
      have hm1 := List.mem_of_getElem? hp
      obtain ⟨i, hi, hie⟩ := List.getElem_of_mem hm
      obtain ⟨j', hj', hje⟩ := List.getElem_of_mem hm1
      have hpw := List.pairwise_iff_getElem.1 hn
      have hnn : i = j' := by
        rcases Nat.lt_trichotomy i j' with h' | h' | h'
        · exact absurd (show (m.map (·.1))[i]'(by simpa using hi) = (m.map (·.1))[j']'(by simpa using hj') by simp [hie, hje, e1]) (hpw i j' _ _ h')
        · exact h'
        · exact absurd (show (m.map (·.1))[j']'(by simpa using hj') = (m.map (·.1))[i]'(by simpa using hi) by simp [hie, hje, e1]) (hpw j' i _ _ h')
      subst hnn
      rw [hie] at hje
      rw [← hje]
    exact ⟨es, c, j, e, hb, by rw [hpv, e2] at h1; simpa using run_findKey (w := w) hK h1, h2, h3⟩

/-- A key that is not there. -/
theorem MapAt.find_miss (h : MapAt w b m) (hK : P.underlying K = some .string) {s : ByteArray} (hm : s ∉ m.map (·.1)) :
    ∃ es clock, w.heap[b]? = some (.map es clock) ∧ YtbdciilkapgfjaaGreatDoor.Stamped es clock ∧ es.toList.map (fun e => (e.key, e.val)) = m.map (fun p => (Value.string p.1, p.2)) ∧ (Instr.findKey K (.string s) es.toList).run P w = .ok none w := by
  obtain ⟨es, c, hb, hs, he, hn⟩ := h
  rcases findNow_spec (d := .string) (k := .string s) trivial es.toList 0 (keys_are he) with ⟨h1, h2⟩ | ⟨j, e, h1, h2, h3⟩
  · exact ⟨es, c, hb, hs, he, run_findKey (w := w) hK h1⟩
  · exfalso
    obtain ⟨p, hp, hpk, hpv⟩ := entry_at he h2
    rw [h3] at hpk
    have e1 : p.1 = s := by simpa using hpk.symm
    exact hm (List.mem_map.2 ⟨p, List.mem_of_getElem? hp, e1⟩)

theorem run_getObj_map {es : Array MapEntry} {c : Nat} (hb : w.heap[b]? = some (.map es c)) : (getObj b).run P w = .ok (.map es c) w := by simp [getObj, Sem.run, hb]
theorem run_setObj_map {es : Array MapEntry} {c : Nat} (hb : w.heap[b]? = some (.map es c)) (o' : Obj) : (setObj b o').run P w = .ok () (setBlock w b o') := by
  simp [setObj, Sem.run, hb, setBlock]

theorem MapAt.lookup_hit (h : MapAt w b m) (hT : P.underlying T = some (.map K E)) (hK : P.underlying K = some .string) {s : ByteArray} {v : Value} (hm : (s, v) ∈ m) (ok : Bool) :
    (Instr.lookup T (.map (some b)) (.string s) ok).run P w = .ok (if ok then .tuple #[v, .bool true] else v) w := by
  obtain ⟨es, c, j, e, hb, hf, _⟩ := h.find_hit hK hm
  have hc := run_checkKey (w := w) (k := .string s) hK trivial es.isEmpty 9999
  simp only [Nat.reduceAdd] at hc
  cases ok <;> simp [Instr.lookup, run_underlying hT, Result.andThen, run_getObj_map hb, hc, hf]

theorem MapAt.lookup_miss (h : MapAt w b m) (hT : P.underlying T = some (.map K E)) (hK : P.underlying K = some .string) {s : ByteArray} (hm : s ∉ m.map (·.1)) {z : Value} (hz : (zeroValue E).run P w = .ok z w) (ok : Bool) :
    (Instr.lookup T (.map (some b)) (.string s) ok).run P w = .ok (if ok then .tuple #[z, .bool false] else z) w := by
  obtain ⟨es, c, hb, _, _, hf⟩ := h.find_miss hK hm
  have hc := run_checkKey (w := w) (k := .string s) hK trivial es.isEmpty 9999
  simp only [Nat.reduceAdd] at hc
  cases ok <;> simp [Instr.lookup, run_underlying hT, Result.andThen, run_getObj_map hb, hc, hf, hz]

theorem grown_setBlock (w : World) (b : Nat) (o : Obj) : w.grownBy (setBlock w b o) (some b) := by
  refine ⟨rfl, rfl, rfl, by simp [setBlock], fun k hk hne => ?_⟩
  simp only [setBlock]
  rw [Array.getElem?_setIfInBounds_ne (by intro e; exact hne (by rw [e]))]

/-- A store at a key that is not there. -/
theorem MapAt.update_new (h : MapAt w b m) (hT : P.underlying T = some (.map K E)) (hK : P.underlying K = some .string) {s : ByteArray} (hm : s ∉ m.map (·.1)) (v : Value) :
    ∃ w', (Instr.mapUpdate T (.map (some b)) (.string s) v).run P w = .ok () w' ∧ MapAt w' b (m ++ [(s, v)]) ∧ w.grownBy w' (some b) ∧ w'.heap.size = w.heap.size := by
  have hlt := h.lt
  obtain ⟨es, c, hb, hs, he, hf⟩ := h.find_miss hK hm
  obtain ⟨_, _, _, _, _, hn⟩ := h
  have hc := run_checkKey (w := w) (k := .string s) hK trivial false 9999
  refine ⟨setBlock w b (.map (es.push { key := .string s, val := v, born := c }) (c + 1)), ?_, ⟨es.push { key := .string s, val := v, born := c }, c + 1, ?_, ⟨?_, ?_⟩, ?_, ?_⟩, grown_setBlock _ _ _, by simp [setBlock]⟩
  · simp only [Nat.reduceAdd] at hc
    simp only [Instr.mapUpdate, Sem.run_bind, run_underlying hT, Result.andThen, run_getObj_map hb, hc, hf, run_setObj_map hb]
  · simp only [setBlock]; rw [Array.getElem?_setIfInBounds_self_of_lt hlt]
  · intro e he'
    rcases (by simpa using he' : e ∈ es.toList ∨ e = { key := .string s, val := v, born := c }) with h1 | rfl
    · have := hs.born e h1; omega
    · show c < c + 1; omega
  · simp only [Array.toList_push, List.map_append, List.map_cons, List.map_nil]
    refine List.nodup_append.2 ⟨hs.nodup, by simp, ?_⟩
    intro x hx y hy
    obtain ⟨e, he1, rfl⟩ := List.mem_map.1 hx
    have := hs.born e he1
    simp at hy
    omega
  · simp [he]
  · rw [List.map_append]
    refine List.nodup_append.2 ⟨hn, by simp, ?_⟩
    intro x hx y hy
    simp at hy
    subst hy
    intro e; subst e; exact hm hx
end
end Go.Proofs.YtbdciilkapgfjaaGreatDoor
