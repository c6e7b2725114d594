/- A part of the proof. A part of the proof. -/
import Derived.Test.YtnaijgdffbfapaaGreatDoorZMap
import Derived.Maps.RangeRun
import Derived.Below
import Derived.WalkKit
import Derived.Maps.RangeWalk
namespace Go.Proofs.YtnaijgdffbfapaaGreatDoor
open Go.RowKit Go.MapKept
open Go.ChangeMaps (setBlock)

/-- Block r ranges over the map in block b, which has just these entries; 'left': the keys that are still to come. -/
def Ranges (w : World) (b r : Nat) (m : List (ByteArray × Value)) (left : ByteArray → Bool) : Prop :=
  ∃ es clock seen, w.heap[b]? = some (.map es clock) ∧ w.heap[r]? = some (.mapIter (some b) clock seen clock) ∧ YtnaijgdffbfapaaGreatDoor.Stamped es clock ∧ es.toList.map (fun e => (e.key, e.val)) = m.map (fun p => (Value.string p.1, p.2)) ∧ (m.map (·.1)).Nodup ∧
    ∀ e ∈ es.toList, ∀ s, e.key = .string s → seen.contains e.born = !left s

theorem Ranges.mapAt {w : World} {b r : Nat} {m : List (ByteArray × Value)} {left : ByteArray → Bool} (h : Ranges w b r m left) : MapAt w b m := by
  obtain ⟨es, clock, seen, h1, _, h3, h4, h5, _⟩ := h
  exact ⟨es, clock, h1, h3, h4, h5⟩
theorem Ranges.same {w w' : World} {b r : Nat} {m : List (ByteArray × Value)} {left : ByteArray → Bool} (h : Ranges w b r m left) (hb : w'.heap[b]? = w.heap[b]?) (hr : w'.heap[r]? = w.heap[r]?) : Ranges w' b r m left := by
  obtain ⟨es, clock, seen, h1, h2, h3⟩ := h
  exact ⟨es, clock, seen, hb.trans h1, hr.trans h2, h3⟩
theorem Ranges.ltr {w : World} {b r : Nat} {m : List (ByteArray × Value)} {left : ByteArray → Bool} (h : Ranges w b r m left) : r < w.heap.size := by
  obtain ⟨es, clock, seen, _, h2, _⟩ := h
  exact (Array.getElem?_eq_some_iff.1 h2).1

section
variable {P : Program} {T K E : TypeId} {w : World} {b r : Nat} {m : List (ByteArray × Value)} {left : ByteArray → Bool}

theorem heap_setBlock_ne (w : World) (b : Nat) (o : Obj) {k : Nat} (h : k ≠ b) : (setBlock w b o).heap[k]? = w.heap[k]? := by
  simp only [setBlock]; rw [Array.getElem?_setIfInBounds_ne (Ne.symm h)]
theorem heap_setBlock (w : World) (b : Nat) (o : Obj) (h : b < w.heap.size) : (setBlock w b o).heap[b]? = some o := by
  simp only [setBlock]; rw [Array.getElem?_setIfInBounds_self_of_lt h]

/-- 'range m'. -/
theorem MapAt.range (h : MapAt w b m) (hT : P.underlying T = some (.map K E)) : ∃ o, (Instr.range T (.map (some b))).run P w = .ok (.pointer (some ⟨w.heap.size, 0, none⟩)) (w.alloc o) ∧ Ranges (w.alloc o) b w.heap.size m fun _ => true := by
  have hlt := h.lt
  obtain ⟨es, c, hb, hs, he, hn⟩ := h
  refine ⟨.mapIter (some b) c #[] c, ?_, es, c, #[], (Below.heap_alloc _ _ _ hlt).trans hb, heap_alloc_new _ _, hs, he, hn, fun _ _ _ _ => by simp⟩
  simp [Instr.range, run_underlying hT, Result.andThen, run_getObj_map hb, newObj, Sem.run]

/-- The step: nothing is left, or some entry that is left comes. -/
theorem Ranges.next (h : Ranges w b r m left) (hne : b ≠ r) (ty : TypeId) :
    ((∀ p ∈ m, left p.1 = false) ∧ (Instr.next (.pointer (some ⟨r, 0, none⟩)) false ty).run P w = .ok (.tuple #[.bool false]) w) ∨
    ∃ p ∈ m, left p.1 = true ∧ ∃ w', (Instr.next (.pointer (some ⟨r, 0, none⟩)) false ty).run P w = .ok (.tuple #[.bool true, .string p.1, p.2]) w' ∧ Ranges w' b r m (fun s => left s && decide (s ≠ p.1)) ∧ w.grownBy w' (some r) ∧ w'.heap.size = w.heap.size ∧
      (Instr.entry (.pointer (some ⟨r, 0, none⟩))).run P w' = .ok (.tuple #[.string p.1, p.2]) w' := by
  have hlt := h.ltr
  obtain ⟨es, clock, seen, hb, hr, hs, he, hn, hl⟩ := h
  have keyOf : ∀ e ∈ es.toList, ∃ p ∈ m, e.key = .string p.1 ∧ e.val = p.2 := fun e hm => by
    obtain ⟨j, hj⟩ := List.getElem?_of_mem hm
    obtain ⟨p, hp, h1, h2⟩ := entry_at he hj
    exact ⟨p, List.mem_of_getElem? hp, h1, h2⟩
  rcases run_next_at (P := P) w ty r b clock clock seen es clock hr hb (fun x hx => hs.born x hx) (Nat.le_refl _) with ⟨h0, hrun⟩ | ⟨e, hel, w1, hw1, hrun⟩
  · refine Or.inl ⟨fun p hp => ?_, hrun⟩
    obtain ⟨i, hi, hpi⟩ := List.getElem_of_mem hp
    have hlen : es.toList.length = m.length := by have := congrArg List.length he; simpa using this
    have hi' : i < es.toList.length := by omega
    have hk : es.toList[i].key = .string p.1 := by
      obtain ⟨q, hq, h1, _⟩ := entry_at he (List.getElem?_eq_getElem hi')
      rw [List.getElem?_eq_getElem hi, hpi] at hq
      cases hq
      exact h1
    have h1 := hl _ (List.getElem_mem hi') _ hk
    have h2 : ¬ (es.toList[i] ∈ (leftOf es seen).toList) := by
      intro hm
      have : 0 < (leftOf es seen).size := by rw [← Array.length_toList]; exact List.length_pos_of_mem hm
      omega
    unfold leftOf at h2
    simp only [Array.toList_filter, List.mem_filter, not_and] at h2
    have h3 := h2 (List.getElem_mem hi')
    rw [h1] at h3
    simpa using h3
  · refine Or.inr ?_
    unfold leftOf at hel
    simp only [Array.toList_filter, List.mem_filter] at hel
    obtain ⟨p, hp, hk, hv⟩ := keyOf e hel.1
    have hp1 : left p.1 = true := by
      have h1 := hl e hel.1 _ hk
      rw [h1] at hel
      simpa using hel.2
    have hb1 : w1.heap[b]? = some (.map es clock) := by rcases hw1 with rfl | rfl <;> exact hb
    have hr1 : w1.heap[r]? = some (.mapIter (some b) clock seen clock) := by rcases hw1 with rfl | rfl <;> exact hr
    have hz1 : w1.heap.size = w.heap.size := by rcases hw1 with rfl | rfl <;> rfl
    have hbl : (setBlock w1 r (.mapIter (some b) clock (seen.push e.born) clock)).heap[b]? = some (.map es clock) := by rw [heap_setBlock_ne _ _ _ hne]; exact hb1
    have hrl : (setBlock w1 r (.mapIter (some b) clock (seen.push e.born) clock)).heap[r]? = some (.mapIter (some b) clock (seen.push e.born) clock) := heap_setBlock _ _ _ (by omega)
    refine ⟨p, hp, hp1, _, by rw [hk, hv] at hrun; exact hrun, ⟨es, clock, seen.push e.born, hbl, hrl, hs, he, hn, fun x hx s hxs => ?_⟩, ?_, by simp [setBlock, hz1], ?_⟩
    · have h1 := hl x hx s hxs
      simp only [Array.contains_push, h1]
      by_cases e1 : s = p.1
      · have : x = e := by
          -- one key, one entry
          obtain ⟨i, hi, e2⟩ := List.getElem_of_mem hx
          obtain ⟨k, hk', e3⟩ := List.getElem_of_mem hel.1
          have hkn : (es.toList.map (·.key)).Nodup := by
            have e4 : es.toList.map (·.key) = m.map (fun p => Value.string p.1) := by
              have := congrArg (List.map Prod.fst) he
              simpa [List.map_map, Function.comp_def] using this
            rw [e4, show m.map (fun p => Value.string p.1) = (m.map (·.1)).map Value.string by simp [List.map_map, Function.comp_def]]
            exact List.Pairwise.map _ (fun a b hab e => hab (by simpa using e)) hn
          have : i = k := (List.getElem_inj (h₀ := by simpa using hi) (h₁ := by simpa using hk') hkn).1 (by simp [e2, e3, hxs, hk, e1])
          subst this
          rw [← e2, ← e3]
        subst this
        simp [e1]
      · have hne2 : x.born ≠ e.born := by
          intro e2
          obtain ⟨i, hi, e3⟩ := List.getElem_of_mem hx
          obtain ⟨k, hk', e4⟩ := List.getElem_of_mem hel.1
          have : i = k := (List.getElem_inj (h₀ := by simpa using hi) (h₁ := by simpa using hk') hs.nodup).1 (by simp [e3, e4, e2])
          subst this
          have : x = e := by rw [← e3, ← e4]
          subst this
          rw [hk] at hxs
          exact e1 (by simpa using hxs.symm)
        simp [e1, hne2]
    · refine ⟨?_, ?_, ?_, by simp [setBlock, hz1], fun k hk1 hkr => ?_⟩
      · rcases hw1 with rfl | rfl <;> rfl
      · rcases hw1 with rfl | rfl <;> rfl
      · rcases hw1 with rfl | rfl <;> rfl
      · rw [heap_setBlock_ne _ _ _ (by intro e; exact hkr (by rw [e]))]
        rcases hw1 with rfl | rfl <;> rfl
    · rw [← hk, ← hv]
      exact run_entry_at _ r b clock seen es clock e hrl hbl hel.1 hs.nodup

/-- The entries, one of them with another value. -/
def setAt (m : List (ByteArray × Value)) (s : ByteArray) (v : Value) : List (ByteArray × Value) := m.map fun p => if p.1 = s then (p.1, v) else p
theorem setAt_keys (m : List (ByteArray × Value)) (s : ByteArray) (v : Value) : (setAt m s v).map (·.1) = m.map (·.1) := by
  unfold setAt
  rw [List.map_map]
  refine List.map_congr_left fun p _ => ?_
  simp only [Function.comp_def]
  split <;> rfl
theorem setAt_self {m : List (ByteArray × Value)} (hn : (m.map (·.1)).Nodup) {s : ByteArray} {v : Value} (hm : (s, v) ∈ m) : setAt m s v = m := by
  unfold setAt
  refine (List.map_congr_left fun p hp => ?_).trans (List.map_id m)
  by_cases e : p.1 = s
  · have : p = (s, v) := by
      obtain ⟨i, hi, e2⟩ := List.getElem_of_mem hp
      obtain ⟨k, hk', e3⟩ := List.getElem_of_mem hm
      have : i = k := (List.getElem_inj (h₀ := by simpa using hi) (h₁ := by simpa using hk') hn).1 (by simp [e2, e3, e])
      subst this
      rw [← e2, ← e3]
    subst this
    simp
  · simp [e]

/-- A store at a key that is there, in the midst of a range. -/
theorem Ranges.store (h : Ranges w b r m left) (hne : b ≠ r) (hT : P.underlying T = some (.map K E)) (hK : P.underlying K = some .string) {s : ByteArray} {v0 : Value} (hm : (s, v0) ∈ m) (v : Value) :
    ∃ w', (Instr.mapUpdate T (.map (some b)) (.string s) v).run P w = .ok () w' ∧ Ranges w' b r (setAt m s v) left ∧ w.grownBy w' (some b) ∧ w'.heap.size = w.heap.size := by
  have hM := h.mapAt
  have hltb := hM.lt
  obtain ⟨es, clock, seen, hb, hr, hs, he, hn, hl⟩ := h
  obtain ⟨es', clock', j, e, hb', hf, hj, hk⟩ := hM.find_hit (P := P) hK hm
  rw [hb] at hb'
  cases hb'
  have hc := run_checkKey (w := w) (k := .string s) hK trivial false 9999
  simp only [Nat.reduceAdd] at hc
  have hjlt : j < es.size := by
    have := (List.getElem?_eq_some_iff.1 hj).1
    simpa using this
  have hej : es[j]? = some e := by rw [← Array.getElem?_toList]; exact hj
  have tl : (es.modify j fun e => { e with key := .string s, val := v }).toList = es.toList.modify j fun e => { e with key := .string s, val := v } := by simp
  refine ⟨setBlock w b (.map (es.modify j fun e => { e with key := .string s, val := v }) clock), ?_, ⟨es.modify j fun e => { e with key := .string s, val := v }, clock, seen, heap_setBlock _ _ _ hltb, (heap_setBlock_ne _ _ _ hne.symm).trans hr, ⟨?_, ?_⟩, ?_, by rw [setAt_keys]; exact hn, ?_⟩, grown_setBlock _ _ _, by simp [setBlock]⟩
  · have hst : (Instr.keyThatStays ((es[j]?.map (·.key)).getD (.string s)) (.string s)).run P w = .ok (.string s) w := by
      rw [hej]
      simp [Instr.keyThatStays, hk, sameBits_self (d := .string) (k := .string s) trivial 10000]
    simp only [Instr.mapUpdate, Sem.run_bind, run_underlying hT, Result.andThen, run_getObj_map hb, hc, hf, hst, run_setObj_map hb]
  · intro x hx
    rw [tl] at hx
    obtain ⟨i, hi, rfl⟩ := List.getElem_of_mem hx
    rw [List.getElem_modify]
    have hi' : i < es.toList.length := by simpa using hi
    split
    · exact hs.born es.toList[i] (List.getElem_mem _)
    · exact hs.born _ (List.getElem_mem _)
  · rw [tl]
    have : (es.toList.modify j fun e => { e with key := .string s, val := v }).map (·.born) = es.toList.map (·.born) := by
      apply List.ext_getElem
      · simp
      · intro i h1 h2
        simp only [List.getElem_map, List.getElem_modify]
        split <;> rfl
    rw [this]; exact hs.nodup
  · rw [tl]
    apply List.ext_getElem
    · have := congrArg List.length he
      simpa [setAt] using this
    · intro i h1 h2
      have hi : i < es.toList.length := by simpa using h1
      have hlen : es.toList.length = m.length := by have := congrArg List.length he; simpa using this
      obtain ⟨p, hp, k1, k2⟩ := entry_at he (List.getElem?_eq_getElem hi)
      have hpi : m[i]'(by omega) = p := by rw [List.getElem?_eq_getElem (by omega)] at hp; exact Option.some.inj hp
      simp only [List.getElem_map, List.getElem_modify, setAt, hpi]
      by_cases e1 : j = i
      · subst e1
        have : es.toList[j] = e := by rw [List.getElem?_eq_getElem hi] at hj; exact Option.some.inj hj
        have hps : p.1 = s := by rw [this, hk] at k1; simpa using k1.symm
        simp [hps]
      · have hps : p.1 ≠ s := by
          intro e2
          have hje : es.toList[j]'(by simpa using hjlt) = e := by rw [List.getElem?_eq_getElem (by simpa using hjlt)] at hj; exact Option.some.inj hj
          obtain ⟨q, hq, q1, q2⟩ := entry_at he hj
          have hqj : m[j]'(by rw [← hlen]; simpa using hjlt) = q := by rw [List.getElem?_eq_getElem (by rw [← hlen]; simpa using hjlt)] at hq; exact Option.some.inj hq
          have hqs : q.1 = s := by rw [hk] at q1; simpa using q1.symm
          exact e1 ((List.getElem_inj (h₀ := by rw [List.length_map, ← hlen]; simpa using hjlt) (h₁ := by rw [List.length_map, ← hlen]; exact hi) hn).1 (by simp [hqj, hpi, hqs, e2]))
        simp only [e1, if_false, hps, k1, k2]
  · intro x hx s' hxs
    rw [tl] at hx
    obtain ⟨i, hi, rfl⟩ := List.getElem_of_mem hx
    have hi' : i < es.toList.length := by simpa using hi
    rw [List.getElem_modify] at hxs ⊢
    by_cases e1 : j = i
    · subst e1
      have : es.toList[j] = e := by rw [List.getElem?_eq_getElem hi'] at hj; exact Option.some.inj hj
      simp only [if_true] at hxs ⊢
      refine hl es.toList[j] (List.getElem_mem _) s' ?_
      rw [this, hk]; exact hxs
    · simp only [e1, if_false] at hxs ⊢
      exact hl _ (List.getElem_mem _) s' hxs

/-- A store at a key that is there. -/
theorem MapAt.store (hM : MapAt w b m) (hT : P.underlying T = some (.map K E)) (hK : P.underlying K = some .string) {s : ByteArray} {v0 : Value} (hm : (s, v0) ∈ m) (v : Value) :
    ∃ w', (Instr.mapUpdate T (.map (some b)) (.string s) v).run P w = .ok () w' ∧ MapAt w' b (setAt m s v) ∧ w.grownBy w' (some b) ∧ w'.heap.size = w.heap.size := by
  have hltb := hM.lt
  have hM0 := hM
  obtain ⟨es, clock, hb, hs, he, hn⟩ := hM0
  obtain ⟨es', clock', j, e, hb', hf, hj, hk⟩ := hM.find_hit (P := P) hK hm
  rw [hb] at hb'
  cases hb'
  have hc := run_checkKey (w := w) (k := .string s) hK trivial false 9999
  simp only [Nat.reduceAdd] at hc
  have hjlt : j < es.size := by
    have := (List.getElem?_eq_some_iff.1 hj).1
    simpa using this
  have hej : es[j]? = some e := by rw [← Array.getElem?_toList]; exact hj
  have tl : (es.modify j fun e => { e with key := .string s, val := v }).toList = es.toList.modify j fun e => { e with key := .string s, val := v } := by simp
  refine ⟨setBlock w b (.map (es.modify j fun e => { e with key := .string s, val := v }) clock), ?_, ⟨es.modify j fun e => { e with key := .string s, val := v }, clock, heap_setBlock _ _ _ hltb, ⟨?_, ?_⟩, ?_, by rw [setAt_keys]; exact hn⟩, grown_setBlock _ _ _, by simp [setBlock]⟩
  · have hst : (Instr.keyThatStays ((es[j]?.map (·.key)).getD (.string s)) (.string s)).run P w = .ok (.string s) w := by
      rw [hej]
      simp [Instr.keyThatStays, hk, sameBits_self (d := .string) (k := .string s) trivial 10000]
    simp only [Instr.mapUpdate, Sem.run_bind, run_underlying hT, Result.andThen, run_getObj_map hb, hc, hf, hst, run_setObj_map hb]
  · intro x hx
    rw [tl] at hx
    obtain ⟨i, hi, rfl⟩ := List.getElem_of_mem hx
    rw [List.getElem_modify]
    have hi' : i < es.toList.length := by simpa using hi
    split
    · exact hs.born es.toList[i] (List.getElem_mem _)
    · exact hs.born _ (List.getElem_mem _)
  · rw [tl]
    have : (es.toList.modify j fun e => { e with key := .string s, val := v }).map (·.born) = es.toList.map (·.born) := by
      apply List.ext_getElem
      · simp
      · intro i h1 h2
        simp only [List.getElem_map, List.getElem_modify]
        split <;> rfl
    rw [this]; exact hs.nodup
  · rw [tl]
    apply List.ext_getElem
    · have := congrArg List.length he
      simpa [setAt] using this
    · intro i h1 h2
      have hi : i < es.toList.length := by simpa using h1
      have hlen : es.toList.length = m.length := by have := congrArg List.length he; simpa using this
      obtain ⟨p, hp, k1, k2⟩ := entry_at he (List.getElem?_eq_getElem hi)
      have hpi : m[i]'(by omega) = p := by rw [List.getElem?_eq_getElem (by omega)] at hp; exact Option.some.inj hp
      simp only [List.getElem_map, List.getElem_modify, setAt, hpi]
      by_cases e1 : j = i
      · subst e1
        have : es.toList[j] = e := by rw [List.getElem?_eq_getElem hi] at hj; exact Option.some.inj hj
        have hps : p.1 = s := by rw [this, hk] at k1; simpa using k1.symm
        simp [hps]
      · have hps : p.1 ≠ s := by
          intro e2
          have hje : es.toList[j]'(by simpa using hjlt) = e := by rw [List.getElem?_eq_getElem (by simpa using hjlt)] at hj; exact Option.some.inj hj
          obtain ⟨q, hq, q1, q2⟩ := entry_at he hj
          have hqj : m[j]'(by rw [← hlen]; simpa using hjlt) = q := by rw [List.getElem?_eq_getElem (by rw [← hlen]; simpa using hjlt)] at hq; exact Option.some.inj hq
          have hqs : q.1 = s := by rw [hk] at q1; simpa using q1.symm
          exact e1 ((List.getElem_inj (h₀ := by rw [List.length_map, ← hlen]; simpa using hjlt) (h₁ := by rw [List.length_map, ← hlen]; exact hi) hn).1 (by simp [hqj, hpi, hqs, e2]))
        simp only [e1, if_false, hps, k1, k2]

/-- A store of what is there changes nothing. -/
theorem MapAt.store_same (hM : MapAt w b m) (hT : P.underlying T = some (.map K E)) (hK : P.underlying K = some .string) {s : ByteArray} {v : Value} (hm : (s, v) ∈ m) :
    (Instr.mapUpdate T (.map (some b)) (.string s) v).run P w = .ok () w := by
  obtain ⟨es, clock, j, e, hb, hf, hj, hk⟩ := hM.find_hit (P := P) hK hm
  obtain ⟨es', clock', hb', hs, he, hn⟩ := hM
  rw [hb] at hb'
  cases hb'
  have hc := run_checkKey (w := w) (k := .string s) hK trivial false 9999
  simp only [Nat.reduceAdd] at hc
  have hjl := (List.getElem?_eq_some_iff.1 hj).1
  have hej : es[j]? = some e := by rw [← Array.getElem?_toList]; exact hj
  have hev : e.val = v := by
    obtain ⟨q, hq, q1, q2⟩ := entry_at he hj
    have hqs : q.1 = s := by rw [hk] at q1; simpa using q1.symm
    obtain ⟨i, hi, e2⟩ := List.getElem_of_mem hm
    have hlen : es.toList.length = m.length := by have := congrArg List.length he; simpa using this
    have hjm : j < m.length := by omega
    have hqj : m[j] = q := by rw [List.getElem?_eq_getElem hjm] at hq; exact Option.some.inj hq
    have : i = j := (List.getElem_inj (h₀ := by simpa using hi) (h₁ := by simpa using hjm) hn).1 (by simp [e2, hqj, hqs])
    subst this
    rw [q2, ← hqj, e2]
  have hmod : (es.modify j fun e => { e with key := .string s, val := v }) = es := by
    apply Array.ext
    · simp
    · intro i h1 h2
      rw [Array.getElem_modify]
      split
      · rename_i e1; subst e1
        have : es[j] = e := (Array.getElem?_eq_some_iff.1 hej).2
        rw [this, ← hk, ← hev]
      · rfl
  have hset : setBlock w b (.map es clock) = w := by
    unfold setBlock
    have : w.heap.setIfInBounds b (.map es clock) = w.heap := by
      apply Array.ext
      · simp
      · intro i h1 h2
        rw [Array.getElem_setIfInBounds]
        split
        · rename_i e1; subst e1
          exact (Array.getElem?_eq_some_iff.1 hb).2.symm
        · rfl
    rw [this]
  have hst : (Instr.keyThatStays ((es[j]?.map (·.key)).getD (.string s)) (.string s)).run P w = .ok (.string s) w := by
    rw [hej]
    simp [Instr.keyThatStays, hk, sameBits_self (d := .string) (k := .string s) trivial 10000]
  simp only [Instr.mapUpdate, Sem.run_bind, run_underlying hT, Result.andThen, run_getObj_map hb, hc, hf, hst, run_setObj_map hb, hmod, hset]

/-- 'delete(m, k)' of a key that is there, in the midst of a range. -/
theorem Ranges.drop (h : Ranges w b r m left) (hne : b ≠ r) (hT : P.underlying T = some (.map K E)) (hK : P.underlying K = some .string) {s : ByteArray} {v0 : Value} (hm : (s, v0) ∈ m) (k : TypeId) :
    ∃ w', (∀ ty, (Builtin.delete_ #[T, k] ty #[.map (some b), .string s]).run P w = .ok (.tuple #[]) w') ∧ Ranges w' b r (m.filter fun p => decide (p.1 ≠ s)) left ∧ w.grownBy w' (some b) ∧ w'.heap.size = w.heap.size := by
  have hM := h.mapAt
  have hltb := hM.lt
  obtain ⟨es, clock, seen, hb, hr, hs, he, hn, hl⟩ := h
  obtain ⟨es', clock', j, e, hb', hf, hj, hk⟩ := hM.find_hit (P := P) hK hm
  rw [hb] at hb'
  cases hb'
  have hc := run_checkKey (w := w) (k := .string s) hK trivial es.isEmpty 9999
  simp only [Nat.reduceAdd] at hc
  have hjl := (List.getElem?_eq_some_iff.1 hj).1
  have hlen : es.toList.length = m.length := by have := congrArg List.length he; simpa using this
  have tl : (es.eraseIdxIfInBounds j).toList = es.toList.eraseIdx j := by simp [Array.eraseIdxIfInBounds, show j < es.size by simpa using hjl]
  have hmf : m.filter (fun p => decide (p.1 ≠ s)) = m.eraseIdx j := by
    obtain ⟨q, hq, q1, q2⟩ := entry_at he hj
    have hqs : q.1 = s := by rw [hk] at q1; simpa using q1.symm
    have hjm : j < m.length := by omega
    have hqj : m[j] = q := by rw [List.getElem?_eq_getElem hjm] at hq; exact Option.some.inj hq
    have hne' : ∀ i (hi : i < m.length), i ≠ j → m[i].1 ≠ s := fun i hi hij e2 => hij ((List.getElem_inj (h₀ := by simpa using hi) (h₁ := by simpa using hjm) hn).1 (by simp [hqj, hqs, e2]))
    conv => lhs; rw [← List.take_append_drop j m, List.drop_eq_getElem_cons hjm]
    rw [List.filter_append, List.filter_cons, List.eraseIdx_eq_take_drop_succ]
    rw [List.filter_eq_self.2, List.filter_eq_self.2]
    · simp [hqj, hqs]
    · intro x hx
      obtain ⟨i, hi, rfl⟩ := List.getElem_of_mem hx
      rw [List.getElem_drop]
      simpa using hne' _ (by simp at hi; omega) (by omega)
    · intro x hx
      obtain ⟨i, hi, rfl⟩ := List.getElem_of_mem hx
      rw [List.getElem_take]
      simp at hi
      simpa using hne' i (by omega) (by omega)
  refine ⟨setBlock w b (.map (es.eraseIdxIfInBounds j) clock), ?_, ⟨es.eraseIdxIfInBounds j, clock, seen, heap_setBlock _ _ _ hltb, (heap_setBlock_ne _ _ _ hne.symm).trans hr, ⟨?_, ?_⟩, ?_, ?_, ?_⟩, grown_setBlock _ _ _, by simp [setBlock]⟩
  · intro ty
    simp [Builtin.delete_, run_underlying hT, Result.andThen, run_getObj_map hb, hc, hf, run_setObj_map hb]
  · intro x hx
    rw [tl] at hx
    exact hs.born x (List.mem_of_mem_eraseIdx hx)
  · rw [tl]
    exact hs.nodup.sublist ((List.eraseIdx_sublist _ _).map _)
  · rw [tl, hmf]
    have er : ∀ {α β : Type} (l : List α) (f : α → β), (l.eraseIdx j).map f = (l.map f).eraseIdx j := fun l f => by simp [List.eraseIdx_eq_take_drop_succ]
    rw [er, er, he]
  · rw [hmf]
    exact hn.sublist ((List.eraseIdx_sublist _ _).map _)
  · intro x hx s' hxs
    rw [tl] at hx
    exact hl x (List.mem_of_mem_eraseIdx hx) s' hxs
end
end Go.Proofs.YtnaijgdffbfapaaGreatDoor

namespace Go.Proofs.YtnaijgdffbfapaaGreatDoor
open Go.RowKit Go.MapKept

/-- How many entries are still to come, read off the world: a loop's measure. -/
def rangeN (w : World) (b r : Nat) : Nat :=
  match w.heap[b]?, w.heap[r]? with
  | some (.map es _), some (.mapIter _ _ seen _) => es.toList.countP fun e => !seen.contains e.born
  | _, _ => 0
def cnt (m : List (ByteArray × Value)) (left : ByteArray → Bool) : Nat := m.countP fun p => left p.1

theorem cnt_eq {seen : Array Nat} {left : ByteArray → Bool} : ∀ (l : List MapEntry) (m : List (ByteArray × Value)), l.map (fun e => (e.key, e.val)) = m.map (fun p => (Value.string p.1, p.2)) → (∀ e ∈ l, ∀ s, e.key = .string s → seen.contains e.born = !left s) →
    (l.countP fun e => !seen.contains e.born) = cnt m left
  | [], [], _, _ => rfl
  | [], _ :: _, h, _ => by simp at h
  | _ :: _, [], h, _ => by simp at h
  | e :: l, p :: m, h, hl => by
    simp only [List.map_cons, List.cons.injEq, Prod.mk.injEq] at h
    have h1 := hl e List.mem_cons_self p.1 h.1.1
    have ih := cnt_eq l m h.2 fun x hx => hl x (List.mem_cons_of_mem _ hx)
    unfold cnt at *
    rw [List.countP_cons, List.countP_cons, ih, h1, Bool.not_not]
theorem Ranges.n {w : World} {b r : Nat} {m : List (ByteArray × Value)} {left : ByteArray → Bool} (h : Ranges w b r m left) : rangeN w b r = cnt m left := by
  obtain ⟨es, clock, seen, hb, hr, _, he, _, hl⟩ := h
  unfold rangeN
  rw [hb, hr]
  exact cnt_eq _ _ he hl

theorem cnt_next {left : ByteArray → Bool} {s : ByteArray} {v : Value} (hlp : left s = true) {m : List (ByteArray × Value)} (hp : (s, v) ∈ m) : cnt m (fun z => left z && decide (z ≠ s)) < cnt m left := by
  have le : ∀ m : List (ByteArray × Value), cnt m (fun z => left z && decide (z ≠ s)) ≤ cnt m left := fun m => List.countP_mono_left fun x _ h => by simp at h; exact h.1
  induction m with
  | nil => cases hp
  | cons x m ih =>
    rcases List.mem_cons.1 hp with rfl | hp
    · have := le m
      unfold cnt at *
      rw [List.countP_cons, List.countP_cons]
      simp only [hlp, Bool.true_and, ne_eq, not_true_eq_false, decide_false, if_true]
      simp only [ne_eq] at this
      have e : (if false = true then 1 else 0) = 0 := rfl
      rw [e]; omega
    · have := ih hp
      unfold cnt at *
      rw [List.countP_cons, List.countP_cons]
      have : (if (fun z => left z && decide (z ≠ s)) x.1 = true then 1 else 0) ≤ (if left x.1 = true then 1 else 0) := by
        by_cases h1 : left x.1 = true
        · simp only [h1, if_true]; split <;> omega
        · simp [h1]
      omega
theorem cnt_setAt (m : List (ByteArray × Value)) (s : ByteArray) (v : Value) (left : ByteArray → Bool) : cnt (setAt m s v) left = cnt m left := by
  unfold cnt setAt
  rw [List.countP_map]
  refine List.countP_congr fun p _ => ?_
  simp only [Function.comp_def]
  split <;> rfl
theorem cnt_drop (m : List (ByteArray × Value)) (q : ByteArray × Value → Bool) (left : ByteArray → Bool) : cnt (m.filter q) left ≤ cnt m left := List.Sublist.countP_le List.filter_sublist

section
variable {P : Program} {w : World} {ops : Array Oper} {rest : List Oper} {o : Oper} {a : Act} {Q : Exit → Act → World → Prop}

theorem wpList_range_R (hg : o.guard = none) (m : Operand) (t : TypeId) (hop : o.op = Op.range t m) (k e : TypeId) (ht : P.underlying t = some (.map k e)) (b : Nat) (mv : List (ByteArray × Value)) (hm : a.eval m = .map (some b)) (hM : MapAt w b mv)
    (hK : ∀ o', Ranges (w.alloc o') b w.heap.size mv (fun _ => true) → wpList P ops Q rest (a.put o.dst (.pointer (some ⟨w.heap.size, 0, none⟩))) (w.alloc o')) : wpList P ops Q (o :: rest) a w := by
  refine wpList_plain hg fun K' hK' => ?_
  obtain ⟨o', hrun, hr⟩ := hM.range ht
  unfold Oper.wp
  simp [execOp, hop, hm, hrun, Result.andThen]
  exact hK' _ _ (hK o' hr)

theorem wpList_next_R (hg : o.guard = none) (it : Operand) (hop : o.op = Op.next it false) (b r : Nat) (mv : List (ByteArray × Value)) (left : ByteArray → Bool) (hne : b ≠ r) (hit : a.eval it = .pointer (some ⟨r, 0, none⟩)) (h : Ranges w b r mv left)
    (hDone : (∀ p ∈ mv, left p.1 = false) → wpList P ops Q rest (a.put o.dst (.tuple #[.bool false])) w)
    (hMore : ∀ (s : ByteArray) (v : Value) (w' : World), (s, v) ∈ mv → left s = true → Ranges w' b r mv (fun z => left z && decide (z ≠ s)) → w.grownBy w' (some r) → w'.heap.size = w.heap.size → (Instr.entry (.pointer (some ⟨r, 0, none⟩))).run P w' = .ok (.tuple #[.string s, v]) w' →
      wpList P ops Q rest (a.put o.dst (.tuple #[.bool true, .string s, v])) w') : wpList P ops Q (o :: rest) a w := by
  refine wpList_plain hg fun K' hK' => ?_
  unfold Oper.wp
  rcases h.next (P := P) hne o.type with ⟨h0, hrun⟩ | ⟨p, hp, hl, w', hrun, h1, h2, h3, h4⟩
  · simp [execOp, hop, hit, hrun, Result.andThen]
    exact hK' _ _ (hDone h0)
  · simp [execOp, hop, hit, hrun, Result.andThen]
    exact hK' _ _ (hMore p.1 p.2 w' hp hl h1 h2 h3 h4)
end
end Go.Proofs.YtnaijgdffbfapaaGreatDoor
