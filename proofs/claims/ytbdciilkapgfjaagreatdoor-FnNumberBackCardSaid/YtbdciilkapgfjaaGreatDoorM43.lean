/- Entries of a map taken over into two rows; the plan of the statement that does it. impl.mapFromGo: a map becomes a Value with the keys rising. -/
import Derived.Test.YtbdciilkapgfjaaGreatDoorZFromGo
import Derived.Test.YtbdciilkapgfjaaGreatDoorM13
import Derived.Test.YtbdciilkapgfjaaGreatDoorZKeys
import Derived.LoopTactic
import Derived.Deep.DeepCutAuto
import Derived.Deep.CutBlock
namespace Go.Proofs.YtbdciilkapgfjaaGreatDoor
open Go.RowKit

/-- Entries that have been taken over: keys in one row, values in another. -/
structure Got2 (lo : Nat) (m : List (ByteArray × J)) (kv vv : Value) (xs : List VC) (w : World) : Prop where
  keys : w.ownsRow lo 9 1 kv xs.length ((m.take xs.length).map fun p => .string p.1)
  vals : w.ownsRow lo 26 6 vv xs.length (cellsOf xs)
  apart : ∀ b, kv.ownBlock = some b → vv.ownBlock ≠ some b
  rd : ∀ i (_ : i < m.length) (h : i < xs.length), VR w (fun b => New lo w b ∧ some b ≠ kv.ownBlock ∧ some b ≠ vv.ownBlock) m[i].2 xs[i]

theorem Got2.nil (lo : Nat) (m : List (ByteArray × J)) (w : World) : Got2 lo m (.slice none 0 0) (.slice none 0 0) [] w :=
  ⟨World.ownsRow_nil _ _ _ _, World.ownsRow_nil _ _ _ _, (fun b h => by cases h), fun i _ h => absurd h (Nat.not_lt_zero i)⟩

theorem Got2.same {lo : Nat} {m : List (ByteArray × J)} {kv vv : Value} {xs : List VC} {w w' : World} (h : Got2 lo m kv vv xs w) (hs : ∀ b, lo ≤ b → b < w.heap.size → w'.heap[b]? = w.heap[b]?) (hz : w.heap.size ≤ w'.heap.size) : Got2 lo m kv vv xs w' :=
  ⟨row_same h.keys fun g hg => hs g (h.keys.lt g hg).1 (h.keys.lt g hg).2, row_same h.vals fun g hg => hs g (h.vals.lt g hg).1 (h.vals.lt g hg).2, h.apart,
   fun i hi hx => (h.rd i hi hx).go (fun b hb => hs b hb.1.1 hb.1.2) (fun _ hb => ⟨⟨hb.1.1, Nat.lt_of_lt_of_le hb.1.2 hz⟩, hb.2⟩)⟩
theorem Got2.below {lo : Nat} {m : List (ByteArray × J)} {kv vv : Value} {xs : List VC} {w w' : World} (h : Got2 lo m kv vv xs w) (hb : Below w.heap.size w w') : Got2 lo m kv vv xs w' := h.same (fun b _ hlt => hb.block b hlt) hb.size
theorem Got2.cell {lo : Nat} {m : List (ByteArray × J)} {kv vv : Value} {xs : List VC} {w : World} (h : Got2 lo m kv vv xs w) {a : Addr} (ha : a.block < lo) (u : Value) : Got2 lo m kv vv xs (w.setCell a u) :=
  h.same (fun b hlo _ => Below.heap_setCell _ _ _ _ (by omega)) (by simp [World.setCell])

/-- The whole map read. -/
theorem Got2.vr {lo lo' : Nat} {m : List (ByteArray × J)} {ka va : Option Addr} {kc vc : Nat} {xs : List VC} {w : World} (h : Got2 lo m (.slice ka xs.length kc) (.slice va xs.length vc) xs w) (hx : xs.length = m.length) (hlo : lo' ≤ lo) (c : VC) (hk : c.k = 6) (hh : c.h = 0) (hs : c.s = ByteArray.empty) (hll : c.ll = 0)
    (hka : c.ka = ka) (hkl : c.kl = xs.length) (hva : c.va = va) (hvl : c.vl = xs.length) (hkc : c.kc = kc) (hvc : c.vc = vc) (hlc : c.lc = 0) : VR w (New lo' w) (.obj m) c := by
  rw [VR]
  refine ⟨⟨hk, hh, hs, hll, by rw [hkl, hx]; rfl, by rw [hvl, hx]; rfl, by rw [hll]; exact Nat.zero_le _, by rw [hkl, hkc]; exact own_cap h.keys, by rw [hvl, hvc]; exact own_cap h.vals, fun _ => hlc, by rw [hka, hkc]; exact own_none h.keys, by rw [hva, hvc]; exact own_none h.vals⟩, fun i hi => ?_, fun i hi => ?_, fun i hi => ?_⟩
  · simp [J.list] at hi
  · have hi' : i < m.length := hi
    obtain ⟨g, cap', e, hg, hlt⟩ := h.keys.form (by omega)
    cases e
    have hc := h.keys.cells (g := g) rfl i (.string m[i].1) (by simp [show i < xs.length by omega, hi'])
    rw [addr_add] at hc
    exact ⟨g, 0, hka, ⟨by omega, hlt⟩, hc⟩
  · have hi' : i < m.length := hi
    have hx' : i < xs.length := by omega
    obtain ⟨g, cap', e, hg, hlt⟩ := h.vals.form (by omega)
    cases e
    have h6 := row_at6 h.vals (g := g) rfl hx'
    refine ⟨g, 0, xs[i], hva, ⟨by omega, hlt⟩, by simpa using h6, ?_⟩
    exact (h.rd i hi' hx').mono (fun b hb => ⟨by have := hb.1.1; omega, hb.1.2⟩)

/-- Both rows one longer. -/
theorem Got2.step {lo lo' : Nat} {m : List (ByteArray × J)} {kv vv : Value} {xs : List VC} {c : VC} {w w1 : World} {gk gv nk nv ck cv : Nat} (h : Got2 lo m kv vv xs w) (hx : xs.length < m.length)
    (hk : w1.ownsRow lo 9 1 (.slice (some ⟨gk, 0, none⟩) nk ck) nk (((m.take xs.length).map fun p => .string p.1) ++ [.string m[xs.length].1])) (hnk : nk = xs.length + 1)
    (hv : w1.ownsRow lo 26 6 (.slice (some ⟨gv, 0, none⟩) nv cv) nv (cellsOf xs ++ c.arr.toList)) (hnv : nv = xs.length + 1)
    (hgk : some gk = kv.ownBlock ∨ w.heap.size ≤ gk) (hgv : some gv = vv.ownBlock ∨ w.heap.size ≤ gv) (hne : gk ≠ gv)
    (hb : ∀ b, lo ≤ b → b < w.heap.size → some b ≠ kv.ownBlock → some b ≠ vv.ownBlock → w1.heap[b]? = w.heap[b]?) (hz : w.heap.size ≤ w1.heap.size)
    (hlo : lo ≤ lo') (hkl : ∀ k, kv.ownBlock = some k → k < lo') (hvl : ∀ k, vv.ownBlock = some k → k < lo') (hV : VR w (New lo' w) m[xs.length].2 c) :
    Got2 lo m (.slice (some ⟨gk, 0, none⟩) nk ck) (.slice (some ⟨gv, 0, none⟩) nv cv) (xs ++ [c]) w1 := by
  subst hnk hnv
  refine ⟨?_, by simpa [cellsOf_append, cellsOf_one] using hv, fun b h1 h2 => ?_, fun i hi hx' => ?_⟩
  · have e : ((m.take (xs ++ [c]).length).map fun p => Value.string p.1) = ((m.take xs.length).map fun p => .string p.1) ++ [.string m[xs.length].1] := by
      rw [List.length_append, List.length_singleton, List.take_succ_eq_append_getElem hx, List.map_append]; rfl
    rw [e]
    simpa using hk
  · rw [own_slice] at h1 h2
    cases h1; cases h2
    exact hne rfl
  · have hs : ∀ b, New lo w b ∧ some b ≠ kv.ownBlock ∧ some b ≠ vv.ownBlock → New lo w1 b ∧ some b ≠ (Value.slice (some ⟨gk, 0, none⟩) (xs.length + 1) ck).ownBlock ∧ some b ≠ (Value.slice (some ⟨gv, 0, none⟩) (xs.length + 1) cv).ownBlock := by
      intro b ⟨⟨b1, b2⟩, b3, b4⟩
      refine ⟨⟨b1, Nat.lt_of_lt_of_le b2 hz⟩, fun e => ?_, fun e => ?_⟩
      · rw [own_slice] at e
        cases e
        rcases hgk with h | h
        · exact b3 h
        · omega
      · rw [own_slice] at e
        cases e
        rcases hgv with h | h
        · exact b4 h
        · omega
    have hsame : ∀ b, New lo w b ∧ some b ≠ kv.ownBlock ∧ some b ≠ vv.ownBlock → w1.heap[b]? = w.heap[b]? := fun b hb' => hb b hb'.1.1 hb'.1.2 hb'.2.1 hb'.2.2
    rcases Nat.lt_or_ge i xs.length with hlt | hge
    · rw [List.getElem_append_left hlt]
      exact (h.rd i hi hlt).go hsame hs
    · obtain rfl : i = xs.length := by simp at hx'; omega
      have e : (xs ++ [c])[xs.length] = c := by simp
      rw [e]
      have hb0 : ∀ b, New lo' w b → New lo w b ∧ some b ≠ kv.ownBlock ∧ some b ≠ vv.ownBlock :=
        fun b hb => ⟨⟨by have := hb.1; omega, hb.2⟩, fun e => by have := hkl b e.symm; have := hb.1; omega, fun e => by have := hvl b e.symm; have := hb.1; omega⟩
      exact (hV.mono hb0).go hsame hs

/-- The keys of an object that rises, as slices.Sorted gives them. -/
theorem keys_sorted {m : List (ByteArray × J)} {mv : List (ByteArray × Value)} (hup : ∀ i (_ : i + 1 < m.length), Op.bytesLess m[i].1.toList m[i + 1].1.toList = true) (hp : (mv.map (·.1)).Perm (m.map (·.1))) :
    ((mv.map fun p => p.1.data.toList).mergeSort leB).map encStr = m.map fun p => Value.string p.1 := by
  have e1 : (mv.map fun p => p.1.data.toList) = (mv.map (·.1)).map fun s => s.data.toList := by rw [List.map_map]; rfl
  have h1 : (mv.map fun p => p.1.data.toList).Perm ((m.map (·.1)).map fun s => s.data.toList) := by rw [e1]; exact hp.map _
  rw [mergeSort_of_perm h1, sorted_rising]
  · rw [List.map_map, List.map_map]
    refine List.map_congr_left fun p _ => ?_
    simp [encStr]
  · rw [List.pairwise_iff_getElem]
    intro i j hi hj hij
    simp only [List.length_map] at hi hj
    have h2 := rising (ks := m.map (·.1)) (by simpa using hup) (j - i - 1) i (by simp; omega)
    have ej : i + (j - i - 1) + 1 = j := by omega
    simp only [ej, List.getElem_map] at h2
    simp only [List.getElem_map, leB, decide_eq_true_eq]
    rw [bytesLess_eq, decide_eq_true_eq, ByteArray.toList_eq, ByteArray.toList_eq] at h2
    exact List.le_of_lt h2

theorem row1_form {w : World} {base : Nat} {e : TypeId} {v : Value} {n : Nat} {xs : List Value} (h : w.ownsRow base e 1 v n xs) :
    ∃ a cap, v = .slice a n cap ∧ ∀ j u, xs[j]? = some u → ∃ g, a = some ⟨g, 0, none⟩ ∧ base ≤ g ∧ g < w.heap.size ∧ w.cell? ⟨g, j, none⟩ = some u := by
  rcases h.2 with ⟨rfl, rfl⟩ | ⟨g, cap, cur, rfl, hb, hg, _⟩
  · refine ⟨none, 0, rfl, fun j u hj => ?_⟩
    have := h.1
    simp at this
    subst this
    simp at hj
  · refine ⟨some ⟨g, 0, none⟩, cap, rfl, fun j u hj => ⟨g, rfl, hb, lt_of_heap hg, ?_⟩⟩
    have := h.cells (g := g) rfl j u hj
    rwa [addr_add, Nat.zero_add] at this

/-- The plan of 'out.Keys, out.Vals = append(out.Keys, k), append(out.Vals, v)', but for the stores. -/
def keysIt (N lo n : Nat) (kv vv key agg : Value) (ks cs : List Value) (cc : Array Value) : Nat → Item
  | 0 => .val none (isV (.pointer (some ⟨N, 4, none⟩))) | 1 => .val none (isV kv) | 2 => .val none (isV key) | 3 => .val none (OneSlice #[key] 9)
  | 4 => .val kv.ownBlock (Longer lo 9 1 (n + 1) (ks ++ #[key].toList))
  | 5 => .val none (isV (.pointer (some ⟨N, 5, none⟩))) | 6 => .val none (isV vv) | 7 => .val none (isV agg) | 8 => .val none (OneSlice cc 26)
  | 9 => .val vv.ownBlock (Longer lo 26 6 (n + 1) (cs ++ cc.toList))
  | 10 => .val none (isV (.pointer (some ⟨N, 4, none⟩))) | _ => .val none fun _ _ _ => True
theorem keysIt_st (N lo n : Nat) (kv vv key agg : Value) (ks cs : List Value) (cc : Array Value) : ∀ i M φ, keysIt N lo n kv vv key agg ks cs cc i = .val M φ → ∀ v S w w', φ v S w → Same S w w' → φ v S w' := by
  intro i M φ hi v S w1 w2 hv hs
  rcases i with _ | _ | _ | _ | _ | _ | _ | _ | _ | _ | _ | i <;> cases hi <;> first | exact hv | exact one_stable hv hs | exact longer_stable hv hs
theorem keysIt_M {N lo n : Nat} {kv vv key agg : Value} {ks cs : List Value} {cc : Array Value} {i b : Nat} {φ : Value → (Nat → Prop) → World → Prop} (h : keysIt N lo n kv vv key agg ks cs cc i = .val (some b) φ) : (i = 4 ∧ kv.ownBlock = some b) ∨ (i = 9 ∧ vv.ownBlock = some b) := by
  rcases i with _ | _ | _ | _ | _ | _ | _ | _ | _ | _ | _ | i
  all_goals first | (exact Or.inl ⟨rfl, by injection h⟩) | (exact Or.inr ⟨rfl, by injection h⟩) | (exact absurd h (by intro h; injection h with h1; cases h1))
theorem keysIt_put (N lo n : Nat) (kv vv key agg : Value) (ks cs : List Value) (cc : Array Value) : ∀ i j b s s', keysIt N lo n kv vv key agg ks cs cc i = .put b s → keysIt N lo n kv vv key agg ks cs cc j = .put b s' → i = j := by
  intro i j b s s' hi _
  rcases i with _ | _ | _ | _ | _ | _ | _ | _ | _ | _ | _ | i <;> cases hi
theorem keysIt_rest (N lo n : Nat) (kv vv key agg : Value) (ks cs : List Value) (cc : Array Value) : ∀ i, 14 ≤ i ∨ decide (i < 11) = false → keysIt N lo n kv vv key agg ks cs cc i = .val none fun _ _ _ => True := by
  intro i hi
  rcases i with _ | _ | _ | _ | _ | _ | _ | _ | _ | _ | _ | i
  all_goals first | rfl | (rcases hi with h | h <;> first | omega | (simp at h; done))
end Go.Proofs.YtbdciilkapgfjaaGreatDoor

namespace Go.Proofs.YtbdciilkapgfjaaGreatDoor
open Go.RowKit

theorem field4 (N : Nat) (w : World) : (Instr.fieldAt 26 (.pointer (some ⟨N, 0, none⟩)) 4).run Tryz.prog w = .ok (.pointer (some ⟨N, 4, none⟩)) w := by
  go_simp
theorem field5 (N : Nat) (w : World) : (Instr.fieldAt 26 (.pointer (some ⟨N, 0, none⟩)) 5).run Tryz.prog w = .ok (.pointer (some ⟨N, 5, none⟩)) w := by
  go_simp
theorem load_strings (N off : Nat) (v : Value) (w : World) (h : w.cell? ⟨N, off, none⟩ = some v) : (Instr.loadAt 24 (.pointer (some ⟨N, off, none⟩))).run Tryz.prog w = .ok v w := by
  go_simp
theorem load_values (N off : Nat) (v : Value) (w : World) (h : w.cell? ⟨N, off, none⟩ = some v) : (Instr.loadAt 23 (.pointer (some ⟨N, off, none⟩))).run Tryz.prog w = .ok v w := by
  go_simp
theorem build_key (key : ByteArray) (w : World) : (Instr.buildSlice 24 1 #[(0, .string key)]).run Tryz.prog w = .ok (.slice (some ⟨w.heap.size, 0, none⟩) 1 1) (w.alloc (.cells #[.string key] 9)) := by
  go_simp
theorem build_val (c : VC) (w : World) : (Instr.buildSlice 23 1 #[(0, c.val)]).run Tryz.prog w = .ok (.slice (some ⟨w.heap.size, 0, none⟩) 1 1) (w.alloc (.cells c.arr 26)) := by
  unfold VC.val VC.arr
  go_simp

theorem store_strings (N off : Nat) (v : Value) (p : Option Addr) (n c : Nat) (w : World) (h : w.cell? ⟨N, off, none⟩ = some v) (hf : w.frozen? ⟨N, off, none⟩ = false) : (Instr.storeAt 24 (.pointer (some ⟨N, off, none⟩)) (.slice p n c)).run Tryz.prog w = .ok () (w.setCell ⟨N, off, none⟩ (.slice p n c)) := by
  go_simp
theorem store_values (N off : Nat) (v : Value) (p : Option Addr) (n c : Nat) (w : World) (h : w.cell? ⟨N, off, none⟩ = some v) (hf : w.frozen? ⟨N, off, none⟩ = false) : (Instr.storeAt 23 (.pointer (some ⟨N, off, none⟩)) (.slice p n c)).run Tryz.prog w = .ok () (w.setCell ⟨N, off, none⟩ (.slice p n c)) := by
  go_simp

/-- What the round of mapFromGo leaves. -/
def RoundOf (N lo : Nat) (m : List (ByteArray × J)) (xs : List VC) (w4 wr : World) : Prop :=
  ∃ ka kc va vc, Box wr N ⟨6, 0, ByteArray.empty, none, 0, 0, ka, xs.length, kc, va, xs.length, vc⟩ ∧ Got2 lo m (.slice ka xs.length kc) (.slice va xs.length vc) xs wr ∧ w4.grownBy wr (some N)

set_option maxRecDepth 100000 in
set_option maxHeartbeats 2000000 in
theorem mapFromGo_any {S : Nat → Prop} {m : List (ByteArray × J)} {b : Nat} {mv : List (ByteArray × Value)} {w : World} (hl : m.length ≤ 1000000) (hS : ∀ b, S b → b < w.heap.size)
    (hup : ∀ i (_ : i + 1 < m.length), Op.bytesLess m[i].1.toList m[i + 1].1.toList = true) (hk : ∀ i (_ : i < m.length), m[i].1.size ≤ 1000000)
    (hb : S b) (hM : MapAt w b mv) (hp : (mv.map (·.1)).Perm (m.map (·.1))) (helem : ∀ i (_ : i < m.length), ∃ x, (m[i].1, x) ∈ mv ∧ JR w S m[i].2 x)
    (ih : ∀ i (_ : i < m.length) (x : Value) (w' : World) (S' : Nat → Prop), JR w' S' m[i].2 x → (∀ b, S' b → b < w'.heap.size) → Calls Tryz.prog 15 #[x] w' (FromGoPost w' m[i].2)) :
    Calls Tryz.prog 21 #[.map (some b)] w (FromGoPost w (.obj m)) := by
  obtain ⟨i0, hi, hz0, hz1, hz2⟩ := info_parts info_value
  obtain ⟨j0, gi, gz0, gz1, gz2⟩ := info_parts info_string
  have hlen : mv.length = m.length := by have := hp.length_eq; simpa using this
  have hmk : ∀ p ∈ mv, p.1.size ≤ maxLen := fun p hpm => by
    have h1 : p.1 ∈ m.map (·.1) := hp.mem_iff.1 (List.mem_map.2 ⟨p, hpm, rfl⟩)
    obtain ⟨q, hq, e⟩ := List.mem_map.1 h1
    obtain ⟨i, hi', e2⟩ := List.getElem_of_mem hq
    have := hk i hi'
    rw [e2] at this
    rw [← e]; unfold maxLen; omega
  have N0 := Lib.hid (box_alloc w VC.nil)
  have N1 := Lib.hid (box_alloc (w.alloc (.cells VC.nil.arr 26)) ⟨6, 0, ByteArray.empty, none, 0, 0, none, 0, 0, none, 0, 0⟩)
  have hbel : Below w.heap.size w ((w.alloc (.cells VC.nil.arr 26)).alloc (.cells (VC.arr ⟨6, 0, ByteArray.empty, none, 0, 0, none, 0, 0, none, 0, 0⟩) 26)) := ((Below.refl _ _).alloc (Nat.le_refl _) _).alloc (by simp) _
  have K1 := maps_Keys b ((w.alloc (.cells VC.nil.arr 26)).alloc (.cells (VC.arr ⟨6, 0, ByteArray.empty, none, 0, 0, none, 0, 0, none, 0, 0⟩) 26))
  have K2 := sorted_Keys (hM.same (hbel.block b (hS b hb))) (by omega) hmk
  simp only [World.size_alloc] at K1 K2
  rw [keys_sorted hup hp, hlen] at K2
  unfold VC.nil VC.arr at N0 N1 K1 K2 hbel
  have KK1 := Lib.hid K1; have KK2 := Lib.hid K2; have WB0 := Lib.hid hbel
  have he := Lib.hid helem; have IHH := Lib.hid ih; have HS := Lib.hid hS; have HM := Lib.hid hM; have HB := Lib.hid hb; have HK := Lib.hid hk
  have I0 := Lib.hid hi; have I1 := Lib.hid hz0; have I2 := Lib.hid hz1; have I3 := Lib.hid hz2
  have J0 := Lib.hid gi; have J1 := Lib.hid gz0; have J2 := Lib.hid gz1; have J3 := Lib.hid gz2
  clear helem ih hS hi hz0 hz1 hz2 gi gz0 gz1 gz2 hM hp hup K1 K2 hbel hmk hb hk hlen
  go_enter Tryz.func21, Tryz.ntmps21
  go_wp2_with fail
  refine KK1.out.mono ?_
  rintro e w3 ⟨rfl, rfl⟩
  go_wp2_with fail
  refine KK2.out.mono ?_
  rintro e w4 ⟨v, rfl, hrow, hb4⟩
  have W4 := Lib.hid ((WB0.out.alloc (by simp; omega) (.cells #[.map (some b)] 43)).trans (hb4.mono (by omega)))
  have M0 := Lib.hid ((N0.out.below (((Below.refl (w.heap.size + 1) _).alloc (by simp) _).alloc (by simp) _) (by omega)).below hb4 (by omega))
  have M1 := Lib.hid (by have h := N1.out; rw [World.size_alloc] at h; exact (h.below ((Below.refl (w.heap.size + 1 + 1) _).alloc (by simp) _) (by omega)).below hb4 (by omega))
  have sz4 := hb4.size
  simp only [World.size_alloc] at sz4
  obtain ⟨ra, rc, rfl, hcell⟩ := row1_form hrow
  have RC := Lib.hid hcell
  clear hrow hb4 hcell N0 N1 WB0 KK1 KK2
  go_wp2_with fail
  go_loopw [14] (fun i wr => ∃ xs : List VC, i = .int .i64 xs.length ∧ xs.length ≤ m.length ∧ RoundOf (w.heap.size + 1) w4.heap.size m xs w4 wr) (fun i _ => m.length - (intOf i).toNat)
  case atStart => exact ⟨[], rfl, Nat.zero_le _, none, 0, none, 0, M1.out, Got2.nil _ _ _, grown_of_below0 (Below.refl _ _) _⟩
  case round =>
    obtain ⟨xs, rfl, hm, ka, kc, va, vc, hB1, hG, hg4⟩ := hrel
    have X1 := Lib.hid hB1; have GG := Lib.hid hG; have G4 := Lib.hid hg4
    have WB := Lib.hid (W4.out.grown hg4 W4.out.size (fun k hk => by cases hk; omega))
    have X0 := Lib.hid (M0.out.kept' hg4 (by simp))
    clear hB1 hG hg4
    by_cases hlt : xs.length < m.length
    · obtain ⟨x, hx, hJ⟩ := he.out xs.length hlt
      have hkc : ∀ g, ra = some ⟨g, 0, none⟩ → w4.cell? ⟨g, xs.length, none⟩ = some (.string m[xs.length].1) ∧ w.heap.size + 1 < g ∧ g < w4.heap.size := fun g hg => by
        obtain ⟨g', e, h1, h2, h3⟩ := RC.out xs.length (.string m[xs.length].1) (by simp [hlt])
        rw [hg] at e; cases e
        exact ⟨h3, by omega, h2⟩
      obtain ⟨g, hg, _⟩ := RC.out xs.length (.string m[xs.length].1) (by simp [hlt])
      subst hg
      obtain ⟨hc1, hc2, hc3⟩ := hkc g rfl
      have hc4 := (World.cell?_of_block (a := ⟨g, xs.length, none⟩) (G4.out.block g hc3 (by simp; omega))).trans hc1
      obtain ⟨key, hkey⟩ : ∃ key, key = m[xs.length].1 := ⟨_, rfl⟩
      rw [← hkey] at hc4 hx
      have hlook := (HM.out.same (WB.out.block b (HS.out b HB.out))).lookup_hit (P := Tryz.prog) (T := 43) (K := 9) (E := 20) Tryz.underlying43 Tryz.underlying9 hx false
      simp only [if_false, Bool.false_eq_true] at hlook
      have szr := WB.out.size
      have IH := Lib.hid (IHH.out xs.length hlt x wr S (hJ.go ((fun b hb => WB.out.block b (HS.out b hb)) : Same S w wr) (fun _ h => h)) (fun b hb => by have := HS.out b hb; omega))
      have KE := Lib.hid hkey
      clear hx hJ hkc hc1 hkey
      go_wp2_with fail
      refine IH.out.mono ?_
      rintro e w2 ⟨c, rfl, hV, hb2⟩
      have Y1 := Lib.hid (X1.out.below hb2 X1.out.lt); have Y0 := Lib.hid (X0.out.below hb2 X0.out.lt)
      have G2 := Lib.hid (GG.out.below hb2)
      have HV := Lib.hid hV; have HB2 := Lib.hid hb2
      clear hV hb2 hc4 hlook hc2 hc3
      have CB := Lib.hid (box_alloc w2 c)
      obtain ⟨c9, hc9⟩ : ∃ c9, c9 = c := ⟨c, rfl⟩
      have C9 := Lib.hid hc9
      clear hc9
      obtain ⟨k9, h9, s9, la9, ll9, lc9, ka9, kl9, kc9, va9, vl9, vc9⟩ := c
      unfold VC.val
      unfold VC.arr at *
      go_upto_region 8 with fail
      have hW0 : Below w2.heap.size w2 (w2.alloc (.cells #[.int .i64 k9, .int .i64 h9, .string s9, .slice la9 ll9 lc9, .slice ka9 kl9 kc9, .slice va9 vl9 vc9] 26)) := (Below.refl _ _).alloc (Nat.le_refl _) _
      have GW := Lib.hid (G2.out.below hW0)
      have Z1 := Lib.hid (Y1.out.below hW0 Y1.out.lt)
      have hs1 := HB2.out.size; have hs2 := X1.out.lt; have hs3 := hW0.size; have hs4 := G4.out.size
      have HW0 := Lib.hid hW0
      clear hW0
      refine plan_core 14 42 [(0, 28), (1, 29), (2, 30), (3, 31), (4, 32), (5, 33), (6, 34), (7, 35), (8, 36), (9, 37), (10, 38)] [(4, .pointer (some ⟨w.heap.size + 1, 0, none⟩)), (6, .string key), (7, .pointer (some ⟨w2.heap.size, 0, none⟩))]
        (keysIt (w.heap.size + 1) w4.heap.size xs.length (.slice ka xs.length kc) (.slice va xs.length vc) (.string key) (VC.val ⟨k9, h9, s9, la9, ll9, lc9, ka9, kl9, kc9, va9, vl9, vc9⟩) ((m.take xs.length).map fun p => .string p.1) (cellsOf xs) (VC.arr ⟨k9, h9, s9, la9, ll9, lc9, ka9, kl9, kc9, va9, vl9, vc9⟩))
        (fun i => decide (i < 11)) (by kernel_rfl) (by kernel_rfl) rfl ?_ (keysIt_st _ _ _ _ _ _ _ _ _ _) ?_ ?_ (by kernel_rfl) (keysIt_put _ _ _ _ _ _ _ _ _ _) (keysIt_rest _ _ _ _ _ _ _ _ _ _) ?_ ?_
      · intro p hp
        simp only [List.mem_cons, List.not_mem_nil, or_false] at hp
        rcases hp with rfl | rfl | rfl <;> rfl
      · intro i j φ ψ b h1 h2
        rcases keysIt_M h1 with ⟨rfl, e1⟩ | ⟨rfl, e1⟩ <;> rcases keysIt_M h2 with ⟨rfl, e2⟩ | ⟨rfl, e2⟩
        · rfl
        · exact absurd e2 (GG.out.apart b e1)
        · exact absurd e1 (GG.out.apart b e2)
        · rfl
      · intro i φ b h1
        rcases keysIt_M h1 with ⟨rfl, e1⟩ | ⟨rfl, e1⟩
        · exact (GW.out.keys.lt b e1).2
        · exact (GW.out.vals.lt b e1).2
      · have far : ∀ j φ, keysIt (w.heap.size + 1) w4.heap.size xs.length (.slice ka xs.length kc) (.slice va xs.length vc) (.string key) (VC.val ⟨k9, h9, s9, la9, ll9, lc9, ka9, kl9, kc9, va9, vl9, vc9⟩) ((m.take xs.length).map fun p => .string p.1) (cellsOf xs) (VC.arr ⟨k9, h9, s9, la9, ll9, lc9, ka9, kl9, kc9, va9, vl9, vc9⟩) j ≠ .val (some (w.heap.size + 1)) φ := by
          intro j φ h
          rcases keysIt_M h with ⟨_, e⟩ | ⟨_, e⟩
          · have := (GG.out.keys.lt _ e).1; omega
          · have := (GG.out.vals.lt _ e).1; omega
        have far2 : ∀ j φ, keysIt (w.heap.size + 1) w4.heap.size xs.length (.slice ka xs.length kc) (.slice va xs.length vc) (.string key) (VC.val ⟨k9, h9, s9, la9, ll9, lc9, ka9, kl9, kc9, va9, vl9, vc9⟩) ((m.take xs.length).map fun p => .string p.1) (cellsOf xs) (VC.arr ⟨k9, h9, s9, la9, ll9, lc9, ka9, kl9, kc9, va9, vl9, vc9⟩) j ≠ .val (some w2.heap.size) φ := by
          intro j φ h
          rcases keysIt_M h with ⟨_, e⟩ | ⟨_, e⟩
          · have := (G2.out.keys.lt _ e).2; omega
          · have := (G2.out.vals.lt _ e).2; omega
        intro i o ho hT
        rcases i with _ | _ | _ | _ | _ | _ | _ | _ | _ | _ | _ | _ | _ | _ | i
        · obtain rfl := Option.some.inj ho
          exact step_field 26 4 4 rfl rfl (by simp) (field4 _)
        · obtain rfl := Option.some.inj ho
          exact step_cell (a := ⟨w.heap.size + 1, 4, none⟩) 24 0 28 rfl rfl (by simp) rfl (by kernel_rfl) Z1.out.c4 Z1.out.lt far (load_strings _ _ _)
        · obtain rfl := Option.some.inj ho
          exact step_move 6 rfl rfl (by simp)
        · obtain rfl := Option.some.inj ho
          exact step_one (v := .string key) 24 9 2 30 rfl rfl (by simp) rfl (by kernel_rfl) (build_key key)
        · obtain rfl := Option.some.inj ho
          exact step_app (inf := j0) (bytes := 16) (cs := #[.string key]) 24 1 3 29 31 rfl rfl (by simp) (by simp) rfl rfl (by kernel_rfl) (by kernel_rfl)
            (fun j φ b h e => by rcases keysIt_M h with ⟨rfl, _⟩ | ⟨rfl, e2⟩; rfl; exact absurd e2 (GG.out.apart b e)) Tryz.underlying24 J0.out J1.out J2.out J3.out rfl (by omega) GW.out.keys rfl (by simp [Value.oneCell']) (by unfold maxLen; omega) (by omega) (by omega)
        · obtain rfl := Option.some.inj ho
          exact step_field 26 5 4 rfl rfl (by simp) (field5 _)
        · obtain rfl := Option.some.inj ho
          exact step_cell (a := ⟨w.heap.size + 1, 5, none⟩) 23 5 33 rfl rfl (by simp) rfl (by kernel_rfl) Z1.out.c5 Z1.out.lt far (load_values _ _ _)
        · obtain rfl := Option.some.inj ho
          exact step_load 7 rfl rfl (by simp) CB.out far2
        · obtain rfl := Option.some.inj ho
          exact step_one (v := VC.val ⟨k9, h9, s9, la9, ll9, lc9, ka9, kl9, kc9, va9, vl9, vc9⟩) 23 26 7 35 rfl rfl (by simp) rfl (by kernel_rfl) (build_val _)
        · obtain rfl := Option.some.inj ho
          exact step_app (inf := i0) (bytes := 104) (cs := VC.arr ⟨k9, h9, s9, la9, ll9, lc9, ka9, kl9, kc9, va9, vl9, vc9⟩) 23 6 8 34 36 rfl rfl (by simp) (by simp) rfl rfl (by kernel_rfl) (by kernel_rfl)
            (fun j φ b h e => by rcases keysIt_M h with ⟨rfl, e2⟩ | ⟨rfl, _⟩; exact absurd e (GG.out.apart b e2); rfl) Tryz.underlying23 I0.out I1.out I2.out I3.out rfl (by omega) GW.out.vals rfl (arr_cells _) (by unfold maxLen; omega) (by omega) (by omega)
        · obtain rfl := Option.some.inj ho
          exact step_field 26 4 4 rfl rfl (by simp) (field4 _)
        · cases hT
        · cases hT
        · cases hT
        · have := (Array.getElem?_eq_some_iff.1 ho).1
          exact absurd this (Nat.not_lt.2 (Nat.le_add_left 14 i))
      · intro u S' w' hp hR fuel listed hsz hl hf
        obtain rfl := listed_eq hsz hl
        have e38 := hR.1 (10, 38) (by simp); have e32 := hR.1 (4, 32) (by simp); have e37 := hR.1 (9, 37) (by simp); have e4 := hR.2 (4, .pointer (some ⟨w.heap.size + 1, 0, none⟩)) (by simp)
        simp only at e38 e32 e37 e4
        rw [isV_of hp (j := 10) (X := .pointer (some ⟨w.heap.size + 1, 4, none⟩)) rfl rfl] at e38
        obtain ⟨h4, s4⟩ := hp.val 4 _ _ rfl rfl
        obtain ⟨h9', s9'⟩ := hp.val 9 _ _ rfl rfl
        obtain ⟨gk, ck, hk1, hkS, hkO⟩ := h4
        obtain ⟨gv, cv, hv1, hvS, hvO⟩ := h9'
        rw [hk1] at e32; rw [hv1] at e37
        rw [hk1] at hkO; rw [hv1] at hvO
        have hgk := s4 gk hkS; have hgv := s9' gv hvS
        have hne : gk ≠ gv := fun e => hp.disj 4 9 _ _ _ _ rfl rfl rfl rfl (by omega) gk hkS (by rw [e]; exact hvS)
        have hblk : ∀ b, b < (w2.alloc (.cells #[.int .i64 k9, .int .i64 h9, .string s9, .slice la9 ll9 lc9, .slice ka9 kl9 kc9, .slice va9 vl9 vc9] 26)).heap.size → some b ≠ (Value.slice ka xs.length kc).ownBlock → some b ≠ (Value.slice va xs.length vc).ownBlock → w'.heap[b]? = (w2.alloc (.cells #[.int .i64 k9, .int .i64 h9, .string s9, .slice la9 ll9 lc9, .slice ka9 kl9 kc9, .slice va9 vl9 vc9] 26)).heap[b]? := by
          intro b hb h1 h2
          refine hp.block b hb fun j φ hj => ?_
          rcases keysIt_M hj with ⟨_, e⟩ | ⟨_, e⟩
          · exact absurd e.symm h1
          · exact absurd e.symm h2
        have B1 : Box w' (w.heap.size + 1) ⟨6, 0, ByteArray.empty, none, 0, 0, ka, xs.length, kc, va, xs.length, vc⟩ := (hblk _ Z1.out.lt (fun e => by have := (GG.out.keys.lt _ e.symm).1; omega) (fun e => by have := (GG.out.vals.lt _ e.symm).1; omega)).trans Z1.out
        have B2 := B1.set4 (some ⟨gk, 0, none⟩) (xs.length + 1) ck
        have B3 := B2.set5 (some ⟨gv, 0, none⟩) (xs.length + 1) cv
        have hm1 : xs.length < m.length := hlt
        have hst : Got2 w4.heap.size m (.slice (some ⟨gk, 0, none⟩) (xs.length + 1) ck) (.slice (some ⟨gv, 0, none⟩) (xs.length + 1) cv) (xs ++ [c9]) w' :=
          Got2.step (lo' := wr.heap.size) GW.out hm1 (by rw [KE.out] at hkO; exact hkO) rfl (by rw [C9.out]; exact hvO) rfl (hgk.1.elim Or.inr Or.inl) (hgv.1.elim Or.inr Or.inl) hne (fun b _ hb h1 h2 => hblk b hb h1 h2) hp.size hs4
            (fun k hk => (GG.out.keys.lt k hk).2) (fun k hk => (GG.out.vals.lt k hk).2) (by rw [C9.out]; exact HV.out.go (fun b hb => HW0.out.block b hb.2) (fun b hb => ⟨hb.1, Nat.lt_of_lt_of_le hb.2 hs3⟩))
        have hRO : RoundOf (w.heap.size + 1) w4.heap.size m (xs ++ [c9]) w4 ((w'.setCell ⟨w.heap.size + 1, 4, none⟩ (.slice (some ⟨gk, 0, none⟩) (xs.length + 1) ck)).setCell ⟨w.heap.size + 1, 5, none⟩ (.slice (some ⟨gv, 0, none⟩) (xs.length + 1) cv)) := by
          refine ⟨some ⟨gk, 0, none⟩, ck, some ⟨gv, 0, none⟩, cv, by simpa using B3, ?_, ?_⟩
          · have := (hst.cell (a := ⟨w.heap.size + 1, 4, none⟩) (by simp; omega) (.slice (some ⟨gk, 0, none⟩) (xs.length + 1) ck)).cell (a := ⟨w.heap.size + 1, 5, none⟩) (by simp; omega) (.slice (some ⟨gv, 0, none⟩) (xs.length + 1) cv)
            simpa using this
          · refine ⟨hp.os.trans (HW0.out.os.trans (HB2.out.os.trans G4.out.os)), hp.tape.trans (HW0.out.tape.trans (HB2.out.tape.trans G4.out.tape)), hp.output.trans (HW0.out.output.trans (HB2.out.output.trans G4.out.output)), ?_, fun b hb h1 => ?_⟩
            · have := hp.size; simp [World.setCell]; omega
            · have hb1 : b ≠ w.heap.size + 1 := fun e => h1 (by rw [e])
              rw [Below.heap_setCell _ _ _ _ hb1, Below.heap_setCell _ _ _ _ hb1, hblk b (by omega) (fun e => by have := (GG.out.keys.lt _ e.symm).1; omega) (fun e => by have := (GG.out.vals.lt _ e.symm).1; omega)]
              exact (HW0.out.block b (by omega)).trans ((HB2.out.block b (by omega)).trans (G4.out.block b hb h1))
        have RO := Lib.hid hRO
        have q4 := B1.c4; have f4 := B1.fr 4; have q5 := B2.c5; have f5 := B2.fr 5
        have st4 : (Instr.storeAt 24 (.pointer (some ⟨w.heap.size + 1, 4, none⟩)) (.slice (some ⟨gk, 0, none⟩) (xs.length + 1) ck)).run Tryz.prog w' = .ok () (w'.setCell ⟨w.heap.size + 1, 4, none⟩ (.slice (some ⟨gk, 0, none⟩) (xs.length + 1) ck)) := store_strings _ _ _ _ _ _ _ q4 f4
        have st5 : (Instr.storeAt 23 (.pointer (some ⟨w.heap.size + 1, 5, none⟩)) (.slice (some ⟨gv, 0, none⟩) (xs.length + 1) cv)).run Tryz.prog (w'.setCell ⟨w.heap.size + 1, 4, none⟩ (.slice (some ⟨gk, 0, none⟩) (xs.length + 1) ck)) = .ok () ((w'.setCell ⟨w.heap.size + 1, 4, none⟩ (.slice (some ⟨gk, 0, none⟩) (xs.length + 1) ck)).setCell ⟨w.heap.size + 1, 5, none⟩ (.slice (some ⟨gv, 0, none⟩) (xs.length + 1) cv)) := store_values _ _ _ _ _ _ _ q5 f5
        clear B1 B2 B3 hst hRO q4 f4 q5 f5 hblk hgk hgv hkO hvO s4 s9' hkS hvS hp hR
        refine wpAny_three 11 12 13 _ _ _ rfl rfl rfl (by kernel_rfl) (by kernel_rfl) (by kernel_rfl) (by kernel_rfl) rfl rfl rfl
          (fun K hK => wp_store_slice 24 (.tmp 38) (.tmp 32) rfl rfl ⟨w.heap.size + 1, 4, none⟩ _ _ _ e38 e32 st4 hK)
          (fun K hK => wp_of_run (.pointer (some ⟨w.heap.size + 1, 5, none⟩)) (run_fieldAddr (w.heap.size + 1) 5 (field5 _) (.tmp 4) _ rfl e4 _) hK)
          (fun K hK => wp_store_slice 23 (.tmp 39) (.tmp 37) rfl rfl ⟨w.heap.size + 1, 5, none⟩ _ _ _ (eval_put_self ?_) ((Act.eval_put (fun d hd e => by cases hd; cases e)).trans e37) st5 hK) ?_ fuel ?_
        · rw [frameOf_size]
          exact (by decide : 39 < 42)
        · simp only [frameOf, frameL, List.zipIdx_cons, List.zipIdx_nil, Act.put, List.setIfInBounds_toArray, List.set_cons_zero, List.set_cons_succ, Nat.zero_add, Nat.reduceAdd]
          go_wp2_with fail
          go_roundw
          case rel => exact ⟨_, by simp, by simp; omega, RO.out⟩
          case measure => simp [intOf]; omega
        · exact Nat.le_trans (by decide) hf
    · have X9 := X1.out
      obtain ⟨hx⟩ : Nonempty (xs.length = m.length) := ⟨by omega⟩
      have n0 := X9.c0; have n1 := X9.c1; have n2 := X9.c2; have n3 := X9.c3; have n4 := X9.c4; have n5 := X9.c5
      have m0 := X0.out.c0; have m1 := X0.out.c1; have m2 := X0.out.c2; have m3 := X0.out.c3; have m4 := X0.out.c4; have m5 := X0.out.c5; have mf := X0.out.fr; have lt0 := X0.out.lt
      have HX := Lib.hid hx
      clear X9 hx
      simp only at m0 m1 m2 m3 m4 m5
      go_wp2_with fail
      refine bodyPost_ret (v := .tuple #[.agg #[.int .i64 6, .int .i64 0, .string ByteArray.empty, .slice none 0 0, .slice ka xs.length kc, .slice va xs.length vc], .bool true]) (by simp [results, Tryz.results21, go_sem, m0, m1, m2, m3, m4, m5]) rfl ?_
      show FromGoPost w (.obj m) (.returned (.tuple #[VC.val ⟨6, 0, ByteArray.empty, none, 0, 0, ka, xs.length, kc, va, xs.length, vc⟩, .bool true])) (valStored wr w.heap.size ⟨6, 0, ByteArray.empty, none, 0, 0, ka, xs.length, kc, va, xs.length, vc⟩)
      exact ⟨_, rfl, (GG.out.vr HX.out (Nat.le_refl _) ⟨6, 0, ByteArray.empty, none, 0, 0, ka, xs.length, kc, va, xs.length, vc⟩ rfl rfl rfl rfl rfl rfl rfl rfl rfl rfl rfl).stored (by omega) W4.out.size, valStored_below WB.out (Nat.le_refl _)⟩
end Go.Proofs.YtbdciilkapgfjaaGreatDoor
