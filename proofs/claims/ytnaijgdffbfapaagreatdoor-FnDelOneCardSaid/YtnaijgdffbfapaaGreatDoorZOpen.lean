/- Whatever can be read as an impl.Value within the form's reach reads as a tree. -/
import Derived.Test.YtnaijgdffbfapaaGreatDoorProg
import Derived.Test.YtnaijgdffbfapaaGreatDoorM1
import Derived.WideShapes
import Derived.ChangeOld
import Derived.KernelRfl
import GoSem.ClaimJoined
namespace Go.Proofs.YtnaijgdffbfapaaGreatDoor
open Go.RowKit

/-- Each place of n has something: a list of them. -/
theorem list_of {α : Type} (n : Nat) (p : Nat → α → Prop) (h : ∀ i, i < n → ∃ x, p i x) : ∃ l : List α, l.length = n ∧ ∀ i (hi : i < l.length), p i l[i] := by
  induction n with
  | zero => exact ⟨[], rfl, fun i hi => by simp at hi⟩
  | succ n ih =>
    obtain ⟨l, hl, hp⟩ := ih fun i hi => h i (by omega)
    obtain ⟨x, hx⟩ := h n (by omega)
    refine ⟨l ++ [x], by simp [hl], fun i hi => ?_⟩
    rcases Nat.lt_or_ge i l.length with h' | h'
    · rw [List.getElem_append_left h']; exact hp i h'
    · obtain rfl : i = l.length := by simp at hi; omega
      simp [hl, hx]

theorem list6 {α : Type} : ∀ (l : List α), l.length = 6 → ∃ y0 y1 y2 y3 y4 y5, l = [y0, y1, y2, y3, y4, y5]
  | [y0, y1, y2, y3, y4, y5], _ => ⟨y0, y1, y2, y3, y4, y5, rfl⟩

section
variable {H : Type} {enc : TypeId × Value → H} {w : World} {held : Bool}

theorem cells6 : Tryz.prog.cellsOf 26 = 6 := by kernel_rfl
theorem cells1 : Tryz.prog.cellsOf 9 = 1 := by kernel_rfl
theorem cells1i : Tryz.prog.cellsOf 3 = 1 := by kernel_rfl
theorem cells1k : Tryz.prog.cellsOf 22 = 1 := by kernel_rfl
theorem cells1l : Tryz.prog.cellsOf 23 = 1 := by kernel_rfl
theorem cells1s : Tryz.prog.cellsOf 24 = 1 := by kernel_rfl
theorem bytes6 : 0 < Tryz.prog.bytesOf 26 := by decide +kernel
theorem bytes1 : 0 < Tryz.prog.bytesOf 9 := by decide +kernel

theorem mem_weightsAll {P : Program} {e : TypeId} {d : DataW H} {n : Nat} (hn : n ∈ d.weights P e) : ∀ {ds : List (DataW H)}, d ∈ ds → n ∈ DataW.weightsAll P e ds
  | d' :: r, h => by
    simp only [DataW.weightsAll, List.mem_append]
    rcases List.mem_cons.1 h with rfl | h
    · exact Or.inl hn
    · exact Or.inr (mem_weightsAll hn h)

/-- Elements of a slice of cells of c each, in a row. -/
theorem elems_spot {a : Addr} {c i : Nat} {cs : List Value} (hc : 0 < c) (h : w.cells? 0 (a.add (i * c)) c = some cs) : (i = 0 → a.spot = none) ∧ ∀ j, j < c → w.cell? ⟨a.block, a.off + i * c + j, none⟩ = cs[j]? := by
  obtain ⟨_, hl, hx⟩ := World.cells?_some h
  have h0 := hx 0 hc
  obtain ⟨v, hv⟩ : ∃ v, cs[0]? = some v := ⟨cs[0]'(by omega), List.getElem?_eq_getElem (by omega)⟩
  rw [hv] at h0
  have hs := World.cell?_spot h0
  have e0 : (a.add (i * c)).add 0 = a.add (i * c) := by simp [Addr.add]
  rw [e0] at hs
  have e : ∀ j, (a.add (i * c)).add j = ⟨a.block, a.off + i * c + j, none⟩ := by
    intro j
    obtain ⟨ab, ao, asp⟩ := a
    unfold Addr.add at hs ⊢
    by_cases hi : i * c = 0
    · simp only [hi, if_true] at hs ⊢
      subst hs
      by_cases hj : j = 0
      · simp [hj]
      · simp [hj]
    · simp only [hi, if_false] at hs ⊢
      by_cases hj : j = 0
      · simp [hj]
      · simp [hj]
  refine ⟨fun hi => ?_, fun j hj => ?_⟩
  · subst hi
    simpa [Addr.add] using hs
  · rw [← e]; exact hx j hj

/-- Whatever reads as a Value, within the reach, reads as a tree. -/
theorem open_value (fuel : Nat) : ∀ (cs : List Value) (x : DataW H × List MemPlace), DataW.trod enc Tryz.prog w 0 (fun _ => true) held fuel 26 cs = some x →
    (∀ n ∈ x.1.weights Tryz.prog 26, n ≤ reachBytes) → ∃ (c : VC) (t : T), cs = c.arr.toList ∧ TR w w.heap.size t c := by
  induction fuel with
  | zero => intro cs x h; simp [DataW.trod] at h
  | succ fuel ih =>
    intro cs x h hw
    obtain ⟨xs, n, hfu, rfl, hcl, hxl, hf⟩ := DataW.trod_struct Tryz.underlying26 h
    obtain rfl : n = fuel := by omega
    rw [cells6] at hcl
    have hxl6 : xs.length = 6 := by simpa using hxl
    obtain ⟨y0, y1, y2, y3, y4, y5, rfl⟩ : ∃ y0 y1 y2 y3 y4 y5, xs = [y0, y1, y2, y3, y4, y5] := list6 xs hxl6
    obtain ⟨c0, c1, c2, c3, c4, c5, rfl⟩ : ∃ c0 c1 c2 c3 c4 c5, cs = [c0, c1, c2, c3, c4, c5] := list6 cs hcl
    have f0 := hf 0 { name := "Kind", type := 22, offset := 0, embedded := false, tag := "", pkgPath := "", byteOffset := 0 } rfl
    have f1 := hf 1 { name := "Half", type := 3, offset := 1, embedded := false, tag := "", pkgPath := "", byteOffset := 8 } rfl
    have f2 := hf 2 { name := "Text", type := 9, offset := 2, embedded := false, tag := "", pkgPath := "", byteOffset := 16 } rfl
    have f3 := hf 3 { name := "List", type := 23, offset := 3, embedded := false, tag := "", pkgPath := "", byteOffset := 32 } rfl
    have f4 := hf 4 { name := "Keys", type := 24, offset := 4, embedded := false, tag := "", pkgPath := "", byteOffset := 56 } rfl
    have f5 := hf 5 { name := "Vals", type := 23, offset := 5, embedded := false, tag := "", pkgPath := "", byteOffset := 80 } rfl
    simp only [cells1k, cells1i, cells1, cells1l, cells1s, List.drop_zero, List.drop_succ_cons, List.take_succ_cons, List.take_zero, List.getElem?_cons_zero, List.getElem?_cons_succ] at f0 f1 f2 f3 f4 f5
    obtain ⟨k, e0, rfl, w0⟩ := DataW.trod_int Tryz.underlying22 f0
    obtain ⟨hh, e1, rfl, w1⟩ := DataW.trod_int Tryz.underlying3 f1
    obtain ⟨s, e2, rfl, w2⟩ := DataW.trod_string Tryz.underlying9 f2
    cases e0; cases e1; cases e2
    simp only [List.map_cons, List.map_nil, DataW.weights, Tryz.underlying26, DataW.weightsEach, List.nil_append, List.append_nil, List.mem_append] at hw
    have hs : s.size ≤ 140737488351232 := by
      have := hw s.data.toList.length (Or.inl (by simp))
      simpa [reachBytes] using this
    -- a slice of Values
    have slices : ∀ {c : Value} {y : DataW H × List MemPlace}, DataW.trod enc Tryz.prog w 0 (fun _ => true) held n 23 [c] = some y → (∀ m ∈ y.1.weights Tryz.prog 23, m ≤ reachBytes) →
        ∃ (a : Option Addr) (len cap : Nat) (l : List T), c = .slice a len cap ∧ l.length = len ∧ len ≤ 140737488351232 ∧ (len ≤ cap ∧ (a = none → cap = 0)) ∧ ∀ i (_ : i < l.length), ∃ b o x, a = some ⟨b, o, none⟩ ∧ b < w.heap.size ∧ At6 w b (o + i * 6) x ∧ TR w w.heap.size l[i] x := by
      intro c y hy hwy
      rcases DataW.trod_slice Tryz.underlying23 hy with ⟨e, rfl⟩ | ⟨a, len, cap, elems, rest, m, hm, e, rfl, hb, hlc, hcap, hel, helems, hrest, _⟩
      · cases e
        exact ⟨none, 0, 0, [], rfl, rfl, by omega, ⟨by omega, fun _ => rfl⟩, fun i hi => by simp at hi⟩
      · cases e
        have hr := (hrest rfl).1
        simp only [DataW.weights, Tryz.underlying23, List.length_map, List.mem_cons, List.mem_append] at hwy
        have hlen : len ≤ 140737488351232 := by
          have h1 := hwy _ (Or.inl rfl)
          have h2 := bytes6
          have h3 : (elems.length + rest.length) * 1 ≤ (elems.length + rest.length) * Tryz.prog.bytesOf 26 := Nat.mul_le_mul_left _ h2
          unfold reachBytes at h1
          omega
        have some0 : ∀ i, i < len → ∃ cs, w.cells? 0 (a.add (i * 6)) 6 = some cs := by
          intro i hi
          have h1 := helems i hi
          rw [cells6] at h1
          obtain ⟨y0, hy0⟩ : ∃ y, elems[i]? = some y := ⟨elems[i]'(by omega), List.getElem?_eq_getElem (by omega)⟩
          rw [hy0] at h1
          obtain ⟨cs0, hcs0, _⟩ := Option.bind_eq_some_iff.1 h1
          exact ⟨cs0, hcs0⟩
        have each : ∀ i, i < len → ∃ t : T, ∃ b o x, some a = some ⟨b, o, none⟩ ∧ b < w.heap.size ∧ At6 w b (o + i * 6) x ∧ TR w w.heap.size t x := by
          intro i hi
          have h1 := helems i hi
          rw [cells6] at h1
          obtain ⟨y, hy⟩ : ∃ y, elems[i]? = some y := ⟨elems[i]'(by omega), List.getElem?_eq_getElem (by omega)⟩
          rw [hy] at h1
          obtain ⟨cs, hcs, htr⟩ := Option.bind_eq_some_iff.1 h1
          have hm' : m + 1 = n := by omega
          have hup : DataW.trod enc Tryz.prog w 0 (fun _ => true) held n 26 cs = some y := by rw [← hm']; exact DataW.trod_le (Nat.le_succ m) htr
          obtain ⟨c, t, rfl, hT⟩ := ih cs y hup (fun p hp => hwy p (Or.inr (Or.inl (mem_weightsAll hp (List.mem_map.2 ⟨y, List.mem_of_getElem? hy, rfl⟩)))))
          have hsp := elems_spot (c := 6) (i := i) (by decide) hcs
          have hb0 := World.cells?_block (n := 6) hcs (by decide)
          have hspot : a.spot = none := by
            obtain ⟨cs0, hcs0⟩ := some0 0 (by omega)
            exact (elems_spot (c := 6) (i := 0) (by decide) hcs0).1 rfl
          have hab : (a.add (i * 6)).block = a.block := by unfold Addr.add; split <;> rfl
          rw [hab] at hb0
          refine ⟨t, a.block, a.off, c, by cases a; simp at hspot; simp [hspot], hb0, ?_, hT⟩
          have g := hsp.2
          exact ⟨g 0 (by omega), g 1 (by omega), g 2 (by omega), g 3 (by omega), g 4 (by omega), g 5 (by omega)⟩
        obtain ⟨l, hl, hp⟩ := list_of len _ each
        exact ⟨some a, len, cap, l, rfl, hl, hlen, ⟨hlc, fun h => by cases h⟩, fun i hi => hp i hi⟩
    have wl : ∀ m ∈ y3.1.weights Tryz.prog 23, m ≤ reachBytes := fun m hm => hw m (Or.inr (Or.inl hm))
    have wv : ∀ m ∈ y5.1.weights Tryz.prog 23, m ≤ reachBytes := fun m hm => hw m (Or.inr (Or.inr (Or.inr hm)))
    have wk : ∀ m ∈ y4.1.weights Tryz.prog 24, m ≤ reachBytes := fun m hm => hw m (Or.inr (Or.inr (Or.inl hm)))
    obtain ⟨la, ll, lc, l, rfl, hl1, hl2, hlc, hl3⟩ := slices f3 wl
    obtain ⟨va, vl, vc, vs, rfl, hv1, hv2, hvc, hv3⟩ := slices f5 wv
    obtain ⟨ka, kl, kc, ks, rfl, hk1, hk2, hkc, hk3⟩ : ∃ (a : Option Addr) (len cap : Nat) (l : List ByteArray), c4 = .slice a len cap ∧ l.length = len ∧ len ≤ 140737488351232 ∧ (len ≤ cap ∧ (a = none → cap = 0)) ∧
        ∀ i (_ : i < l.length), ∃ b o, a = some ⟨b, o, none⟩ ∧ b < w.heap.size ∧ w.cell? ⟨b, o + i, none⟩ = some (.string l[i]) ∧ l[i].size ≤ 140737488351232 := by
      rcases DataW.trod_slice Tryz.underlying24 f4 with ⟨e, rfl⟩ | ⟨a, len, cap, elems, rest, m, hm, e, rfl, hb, hlc, hcap, hel, helems, hrest, _⟩
      · cases e
        exact ⟨none, 0, 0, [], rfl, rfl, by omega, ⟨by omega, fun _ => rfl⟩, fun i hi => by simp at hi⟩
      · cases e
        simp only [DataW.weights, Tryz.underlying24, List.length_map, List.mem_cons, List.mem_append] at wk
        have hlen : len ≤ 140737488351232 := by
          have h1 := wk _ (Or.inl rfl)
          have h2 := bytes1
          have h3 : (elems.length + rest.length) * 1 ≤ (elems.length + rest.length) * Tryz.prog.bytesOf 9 := Nat.mul_le_mul_left _ h2
          unfold reachBytes at h1
          omega
        have some0 : ∀ i, i < len → ∃ cs, w.cells? 0 (a.add (i * 1)) 1 = some cs := by
          intro i hi
          have h1 := helems i hi
          rw [cells1] at h1
          obtain ⟨y0, hy0⟩ : ∃ y, elems[i]? = some y := ⟨elems[i]'(by omega), List.getElem?_eq_getElem (by omega)⟩
          rw [hy0] at h1
          obtain ⟨cs0, hcs0, _⟩ := Option.bind_eq_some_iff.1 h1
          exact ⟨cs0, hcs0⟩
        have each : ∀ i, i < len → ∃ t : ByteArray, ∃ b o, some a = some ⟨b, o, none⟩ ∧ b < w.heap.size ∧ w.cell? ⟨b, o + i, none⟩ = some (.string t) ∧ t.size ≤ 140737488351232 := by
          intro i hi
          have h1 := helems i hi
          rw [cells1] at h1
          obtain ⟨y, hy⟩ : ∃ y, elems[i]? = some y := ⟨elems[i]'(by omega), List.getElem?_eq_getElem (by omega)⟩
          rw [hy] at h1
          obtain ⟨cs, hcs, htr⟩ := Option.bind_eq_some_iff.1 h1
          obtain ⟨t, rfl, rfl, _⟩ := DataW.trod_string Tryz.underlying9 htr
          have hsz : t.size ≤ 140737488351232 := by
            have := wk t.data.toList.length (Or.inr (Or.inl (mem_weightsAll (d := .lit (.string t.data.toList)) (by simp [DataW.weights]) (List.mem_map.2 ⟨_, List.mem_of_getElem? hy, rfl⟩))))
            simpa [reachBytes] using this
          have hsp := elems_spot (c := 1) (i := i) (by decide) hcs
          have hb0 := World.cells?_block (n := 1) hcs (by decide)
          have hspot : a.spot = none := by
            obtain ⟨cs0, hcs0⟩ := some0 0 (by omega)
            exact (elems_spot (c := 1) (i := 0) (by decide) hcs0).1 rfl
          have hab : (a.add (i * 1)).block = a.block := by unfold Addr.add; split <;> rfl
          rw [hab] at hb0
          have g := hsp.2 0 (by decide)
          refine ⟨t, a.block, a.off, by cases a; simp at hspot; simp [hspot], hb0, ?_, hsz⟩
          simpa using g
        obtain ⟨l, hl, hp⟩ := list_of len _ each
        exact ⟨some a, len, cap, l, rfl, hl, hlen, ⟨hlc, fun h => by cases h⟩, fun i hi => hp i hi⟩
    refine ⟨⟨k, hh, s, la, ll, lc, ka, kl, kc, va, vl, vc⟩, .mk k hh s l ks vs, rfl, ?_⟩
    rw [TR]
    exact ⟨⟨rfl, rfl, rfl, hl1.symm, hk1.symm, hv1.symm, hs, by show l.length ≤ _; omega, by show ks.length ≤ _; omega, by show vs.length ≤ _; omega, hlc.1, hkc.1, hvc.1, hlc.2, hkc.2, hvc.2⟩, hl3, hk3, hv3⟩
end
end Go.Proofs.YtnaijgdffbfapaaGreatDoor
