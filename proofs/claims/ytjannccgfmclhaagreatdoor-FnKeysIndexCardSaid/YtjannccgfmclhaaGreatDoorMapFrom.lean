/- Entries of a map taken over into two rows; the plan of the statement that does it. -/
import Derived.Test.YtjannccgfmclhaaGreatDoorFromGo
import Derived.Test.YtjannccgfmclhaaGreatDoorSteps
import Derived.Test.YtjannccgfmclhaaGreatDoorKeys
namespace Go.Proofs.YtjannccgfmclhaaGreatDoor
open Go.RowKit

/-- Entries that have been taken over: keys in one row, values in another. -/
structure Got2 (lo : Nat) (m : List (ByteArray × J)) (kv vv : Value) (xs : List VC) (w : World) : Prop where
  keys : w.ownsRow lo 9 1 kv xs.length ((m.take xs.length).map fun p => .string p.1)
  vals : w.ownsRow lo 26 6 vv xs.length (cellsOf xs)
  apart : ∀ b, kv.ownBlock = some b → vv.ownBlock ≠ some b
  rd : ∀ i (_ : i < m.length) (h : i < xs.length), VR w (fun b => New lo w b ∧ some b ≠ kv.ownBlock ∧ some b ≠ vv.ownBlock) m[i].2 xs[i]

theorem Got2.nil (lo : Nat) (m : List (ByteArray × J)) (w : World) : Got2 lo m (.slice none 0 0) (.slice none 0 0) [] w :=
  ⟨World.ownsRow_nil _ _ _ _, World.ownsRow_nil _ _ _ _, (fun b h => by cases h), fun i _ h => absurd h (Nat.not_lt_zero i)⟩

theorem Got2.same {lo : Nat} {m : List (ByteArray × J)} {kv vv : Value} {xs : List VC} {w w' : World} (h : Got2 lo m kv vv xs w) (hs : ∀ b, lo ≤ b → b < w.heap.size → w'.heap[b]? = w.heap[b]?) (hz : w.heap.size ≤ w'.heap.size) : Got2 lo m kv vv xs w' :=
  ⟨row_same h.keys fun g hg => hs g (h.keys.lt g hg).1 (h.keys.lt g hg).2, row_same h.vals fun g hg => hs g (h.vals.lt g hg).1 (h.vals.lt g hg).2, h.apart,
   fun i hi hx => (h.rd i hi hx).go (fun b hb => hs b hb.1.1 hb.1.2) (fun _ hb => ⟨⟨hb.1.1, Nat.lt_of_lt_of_le hb.1.2 hz⟩, hb.2⟩)⟩
theorem Got2.below {lo : Nat} {m : List (ByteArray × J)} {kv vv : Value} {xs : List VC} {w w' : World} (h : Got2 lo m kv vv xs w) (hb : Below w.heap.size w w') : Got2 lo m kv vv xs w' := h.same (fun b _ hlt => hb.block b hlt) hb.size
theorem Got2.cell {lo : Nat} {m : List (ByteArray × J)} {kv vv : Value} {xs : List VC} {w : World} (h : Got2 lo m kv vv xs w) {a : Addr} (ha : a.block < lo) (u : Value) : Got2 lo m kv vv xs (w.setCell a u) :=
  h.same (fun b hlo _ => Below.heap_setCell _ _ _ _ (by omega)) (by simp [World.setCell])

/-- The whole map read. -/
theorem Got2.vr {lo lo' : Nat} {m : List (ByteArray × J)} {ka va : Option Addr} {kc vc : Nat} {xs : List VC} {w : World} (h : Got2 lo m (.slice ka xs.length kc) (.slice va xs.length vc) xs w) (hx : xs.length = m.length) (hlo : lo' ≤ lo) (c : VC) (hk : c.k = 6) (hh : c.h = 0) (hs : c.s = ByteArray.empty) (hll : c.ll = 0)
    (hka : c.ka = ka) (hkl : c.kl = xs.length) (hva : c.va = va) (hvl : c.vl = xs.length) : VR w (New lo' w) (.obj m) c := by
  rw [VR]
  refine ⟨⟨hk, hh, hs, hll, by rw [hkl, hx]; rfl, by rw [hvl, hx]; rfl⟩, fun i hi => ?_, fun i hi => ?_, fun i hi => ?_⟩
  · simp [J.list] at hi
  · have hi' : i < m.length := hi
    obtain ⟨g, cap', e, hg, hlt⟩ := h.keys.form (by omega)
    cases e
    have hc := h.keys.cells (g := g) rfl i (.string m[i].1) (by simp [show i < xs.length by omega, hi'])
    rw [addr_add] at hc
    exact ⟨g, 0, hka, ⟨by omega, hlt⟩, hc⟩
  · have hi' : i < m.length := hi
    have hx' : i < xs.length := by omega
    obtain ⟨g, cap', e, hg, hlt⟩ := h.vals.form (by omega)
    cases e
    have h6 := row_at6 h.vals (g := g) rfl hx'
    refine ⟨g, 0, xs[i], hva, ⟨by omega, hlt⟩, by simpa using h6, ?_⟩
    exact (h.rd i hi' hx').mono (fun b hb => ⟨by have := hb.1.1; omega, hb.1.2⟩)

/-- Both rows one longer. -/
theorem Got2.step {lo lo' : Nat} {m : List (ByteArray × J)} {kv vv : Value} {xs : List VC} {c : VC} {w w1 : World} {gk gv nk nv ck cv : Nat} (h : Got2 lo m kv vv xs w) (hx : xs.length < m.length)
    (hk : w1.ownsRow lo 9 1 (.slice (some ⟨gk, 0, none⟩) nk ck) nk (((m.take xs.length).map fun p => .string p.1) ++ [.string m[xs.length].1])) (hnk : nk = xs.length + 1)
    (hv : w1.ownsRow lo 26 6 (.slice (some ⟨gv, 0, none⟩) nv cv) nv (cellsOf xs ++ c.arr.toList)) (hnv : nv = xs.length + 1)
    (hgk : some gk = kv.ownBlock ∨ w.heap.size ≤ gk) (hgv : some gv = vv.ownBlock ∨ w.heap.size ≤ gv) (hne : gk ≠ gv)
    (hb : ∀ b, lo ≤ b → b < w.heap.size → some b ≠ kv.ownBlock → some b ≠ vv.ownBlock → w1.heap[b]? = w.heap[b]?) (hz : w.heap.size ≤ w1.heap.size)
    (hlo : lo ≤ lo') (hkl : ∀ k, kv.ownBlock = some k → k < lo') (hvl : ∀ k, vv.ownBlock = some k → k < lo') (hV : VR w (New lo' w) m[xs.length].2 c) :
    Got2 lo m (.slice (some ⟨gk, 0, none⟩) nk ck) (.slice (some ⟨gv, 0, none⟩) nv cv) (xs ++ [c]) w1 := by
  subst hnk hnv
  refine ⟨?_, by simpa [cellsOf_append, cellsOf_one] using hv, fun b h1 h2 => ?_, fun i hi hx' => ?_⟩
  · have e : ((m.take (xs ++ [c]).length).map fun p => Value.string p.1) = ((m.take xs.length).map fun p => .string p.1) ++ [.string m[xs.length].1] := by
      rw [List.length_append, List.length_singleton, List.take_succ_eq_append_getElem hx, List.map_append]; rfl
    rw [e]
    simpa using hk
  · rw [own_slice] at h1 h2
    cases h1; cases h2
    exact hne rfl
  · have hs : ∀ b, New lo w b ∧ some b ≠ kv.ownBlock ∧ some b ≠ vv.ownBlock → New lo w1 b ∧ some b ≠ (Value.slice (some ⟨gk, 0, none⟩) (xs.length + 1) ck).ownBlock ∧ some b ≠ (Value.slice (some ⟨gv, 0, none⟩) (xs.length + 1) cv).ownBlock := by
      intro b ⟨⟨b1, b2⟩, b3, b4⟩
      refine ⟨⟨b1, Nat.lt_of_lt_of_le b2 hz⟩, fun e => ?_, fun e => ?_⟩
      · rw [own_slice] at e
        cases e
        rcases hgk with h | h
        · exact b3 h
        · omega
      · rw [own_slice] at e
        cases e
        rcases hgv with h | h
        · exact b4 h
        · omega
    have hsame : ∀ b, New lo w b ∧ some b ≠ kv.ownBlock ∧ some b ≠ vv.ownBlock → w1.heap[b]? = w.heap[b]? := fun b hb' => hb b hb'.1.1 hb'.1.2 hb'.2.1 hb'.2.2
    rcases Nat.lt_or_ge i xs.length with hlt | hge
    · rw [List.getElem_append_left hlt]
      exact (h.rd i hi hlt).go hsame hs
    · obtain rfl : i = xs.length := by simp at hx'; omega
      have e : (xs ++ [c])[xs.length] = c := by simp
      rw [e]
      have hb0 : ∀ b, New lo' w b → New lo w b ∧ some b ≠ kv.ownBlock ∧ some b ≠ vv.ownBlock :=
        fun b hb => ⟨⟨by have := hb.1; omega, hb.2⟩, fun e => by have := hkl b e.symm; have := hb.1; omega, fun e => by have := hvl b e.symm; have := hb.1; omega⟩
      exact (hV.mono hb0).go hsame hs

/-- The keys of an object that rises, as slices.Sorted gives them. -/
theorem keys_sorted {m : List (ByteArray × J)} {mv : List (ByteArray × Value)} (hup : ∀ i (_ : i + 1 < m.length), Op.bytesLess m[i].1.toList m[i + 1].1.toList = true) (hp : (mv.map (·.1)).Perm (m.map (·.1))) :
    ((mv.map fun p => p.1.data.toList).mergeSort leB).map encStr = m.map fun p => Value.string p.1 := by
  have e1 : (mv.map fun p => p.1.data.toList) = (mv.map (·.1)).map fun s => s.data.toList := by rw [List.map_map]; rfl
  have h1 : (mv.map fun p => p.1.data.toList).Perm ((m.map (·.1)).map fun s => s.data.toList) := by rw [e1]; exact hp.map _
  rw [mergeSort_of_perm h1, sorted_rising]
  · rw [List.map_map, List.map_map]
    refine List.map_congr_left fun p _ => ?_
    simp [encStr]
  · rw [List.pairwise_iff_getElem]
    intro i j hi hj hij
    simp only [List.length_map] at hi hj
    have h2 := rising (ks := m.map (·.1)) (by simpa using hup) (j - i - 1) i (by simp; omega)
    have ej : i + (j - i - 1) + 1 = j := by omega
    simp only [ej, List.getElem_map] at h2
    simp only [List.getElem_map, leB, decide_eq_true_eq]
    rw [bytesLess_eq, decide_eq_true_eq, ByteArray.toList_eq, ByteArray.toList_eq] at h2
    exact List.le_of_lt h2

theorem row1_form {w : World} {base : Nat} {e : TypeId} {v : Value} {n : Nat} {xs : List Value} (h : w.ownsRow base e 1 v n xs) :
    ∃ a cap, v = .slice a n cap ∧ ∀ j u, xs[j]? = some u → ∃ g, a = some ⟨g, 0, none⟩ ∧ base ≤ g ∧ g < w.heap.size ∧ w.cell? ⟨g, j, none⟩ = some u := by
  rcases h.2 with ⟨rfl, rfl⟩ | ⟨g, cap, cur, rfl, hb, hg, _⟩
  · refine ⟨none, 0, rfl, fun j u hj => ?_⟩
    have := h.1
    simp at this
    subst this
    simp at hj
  · refine ⟨some ⟨g, 0, none⟩, cap, rfl, fun j u hj => ⟨g, rfl, hb, lt_of_heap hg, ?_⟩⟩
    have := h.cells (g := g) rfl j u hj
    rwa [addr_add, Nat.zero_add] at this

/-- The plan of 'out.Keys, out.Vals = append(out.Keys, k), append(out.Vals, v)', but for the stores. -/
def keysIt (N lo n : Nat) (kv vv key agg : Value) (ks cs : List Value) (cc : Array Value) : Nat → Item
  | 0 => .val none (isV (.pointer (some ⟨N, 4, none⟩))) | 1 => .val none (isV kv) | 2 => .val none (isV key) | 3 => .val none (OneSlice #[key] 9)
  | 4 => .val kv.ownBlock (Longer lo 9 1 (n + 1) (ks ++ #[key].toList))
  | 5 => .val none (isV (.pointer (some ⟨N, 5, none⟩))) | 6 => .val none (isV vv) | 7 => .val none (isV agg) | 8 => .val none (OneSlice cc 26)
  | 9 => .val vv.ownBlock (Longer lo 26 6 (n + 1) (cs ++ cc.toList))
  | 10 => .val none (isV (.pointer (some ⟨N, 4, none⟩))) | _ => .val none fun _ _ _ => True
theorem keysIt_st (N lo n : Nat) (kv vv key agg : Value) (ks cs : List Value) (cc : Array Value) : ∀ i M φ, keysIt N lo n kv vv key agg ks cs cc i = .val M φ → ∀ v S w w', φ v S w → Same S w w' → φ v S w' := by
  intro i M φ hi v S w1 w2 hv hs
  rcases i with _ | _ | _ | _ | _ | _ | _ | _ | _ | _ | _ | i <;> cases hi <;> first | exact hv | exact one_stable hv hs | exact longer_stable hv hs
theorem keysIt_M {N lo n : Nat} {kv vv key agg : Value} {ks cs : List Value} {cc : Array Value} {i b : Nat} {φ : Value → (Nat → Prop) → World → Prop} (h : keysIt N lo n kv vv key agg ks cs cc i = .val (some b) φ) : (i = 4 ∧ kv.ownBlock = some b) ∨ (i = 9 ∧ vv.ownBlock = some b) := by
  rcases i with _ | _ | _ | _ | _ | _ | _ | _ | _ | _ | _ | i
  all_goals first | (exact Or.inl ⟨rfl, by injection h⟩) | (exact Or.inr ⟨rfl, by injection h⟩) | (exact absurd h (by intro h; injection h with h1; cases h1))
theorem keysIt_put (N lo n : Nat) (kv vv key agg : Value) (ks cs : List Value) (cc : Array Value) : ∀ i j b s s', keysIt N lo n kv vv key agg ks cs cc i = .put b s → keysIt N lo n kv vv key agg ks cs cc j = .put b s' → i = j := by
  intro i j b s s' hi _
  rcases i with _ | _ | _ | _ | _ | _ | _ | _ | _ | _ | _ | i <;> cases hi
theorem keysIt_rest (N lo n : Nat) (kv vv key agg : Value) (ks cs : List Value) (cc : Array Value) : ∀ i, 14 ≤ i ∨ decide (i < 11) = false → keysIt N lo n kv vv key agg ks cs cc i = .val none fun _ _ _ => True := by
  intro i hi
  rcases i with _ | _ | _ | _ | _ | _ | _ | _ | _ | _ | _ | i
  all_goals first | rfl | (rcases hi with h | h <;> first | omega | (simp at h; done))
end Go.Proofs.YtjannccgfmclhaaGreatDoor
