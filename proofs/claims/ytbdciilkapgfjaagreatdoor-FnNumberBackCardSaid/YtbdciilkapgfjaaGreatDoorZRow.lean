/- A row of Values that a call owns, as append leaves it, element by element a reading. -/
import Derived.Test.YtbdciilkapgfjaaGreatDoorProg
import Derived.Test.YtbdciilkapgfjaaGreatDoorM10
import Derived.Deep.AppendLies
namespace Go.Proofs.YtbdciilkapgfjaaGreatDoor
open Go.RowKit

/-- The cells of Values in a row. -/
def cellsOf (xs : List VC) : List Value := xs.flatMap fun c => c.arr.toList
theorem arr_len (c : VC) : c.arr.toList.length = 6 := rfl
theorem cellsOf_append (xs ys : List VC) : cellsOf (xs ++ ys) = cellsOf xs ++ cellsOf ys := by simp [cellsOf]
theorem cellsOf_one (c : VC) : cellsOf [c] = c.arr.toList := by simp [cellsOf]
theorem cellsOf_length (xs : List VC) : (cellsOf xs).length = xs.length * 6 := by
  induction xs with
  | nil => rfl
  | cons c xs ih => simp only [cellsOf, List.flatMap_cons, List.length_append, arr_len, List.length_cons] at ih ⊢; rw [ih]; omega
theorem cellsOf_get (xs : List VC) {i k : Nat} (hi : i < xs.length) (hk : k < 6) : (cellsOf xs)[i * 6 + k]? = xs[i].arr.toList[k]? := by
  induction xs generalizing i with
  | nil => simp at hi
  | cons c xs ih =>
    simp only [cellsOf, List.flatMap_cons]
    cases i with
    | zero => rw [List.getElem?_append_left (by rw [arr_len]; omega)]; simp
    | succ i =>
      rw [List.getElem?_append_right (by rw [arr_len]; omega), arr_len, show (i + 1) * 6 + k - 6 = i * 6 + k by omega]
      have := ih (i := i) (by simpa using hi)
      simpa [cellsOf] using this

theorem addr_add (b o j : Nat) : (⟨b, o, none⟩ : Addr).add j = ⟨b, o + j, none⟩ := by unfold Addr.add; split <;> simp_all

/-- Six cells in a row of Values. -/
theorem row_at6 {w : World} {base g : Nat} {v : Value} {n : Nat} {xs : List VC} (h : w.ownsRow base 26 6 v n (cellsOf xs)) (hg : v.ownBlock = some g) {i : Nat} (hi : i < xs.length) : At6 w g (i * 6) xs[i] := by
  have hc := h.cells hg
  have one : ∀ k, k < 6 → ∀ u, xs[i].arr.toList[k]? = some u → w.cell? ⟨g, i * 6 + k, none⟩ = some u := fun k hk u hu => by
    have := hc (i * 6 + k) u (by rw [cellsOf_get xs hi hk]; exact hu)
    rwa [addr_add, Nat.zero_add] at this
  exact ⟨one 0 (by omega) _ rfl, one 1 (by omega) _ rfl, one 2 (by omega) _ rfl, one 3 (by omega) _ rfl, one 4 (by omega) _ rfl, one 5 (by omega) _ rfl⟩

theorem grown_of_below0 {w w' : World} (h : Below w.heap.size w w') (row : Option Nat) : w.grownBy w' row := ⟨h.os, h.tape, h.output, h.size, fun k hk _ => h.block k hk⟩
theorem row_below {w w' : World} {base size : Nat} {e : TypeId} {v : Value} {n : Nat} {xs : List Value} (h : w.ownsRow base e size v n xs) (hb : Below w.heap.size w w') : w'.ownsRow base e size v n xs :=
  h.kept (row := none) (grown_of_below0 hb none) (by cases v.ownBlock <;> simp)

def zeroVC : Value := .agg #[.int .i64 0, .int .i64 0, .string ByteArray.empty, .slice none 0 0, .slice none 0 0, .slice none 0 0]
theorem info_value : (Tryz.prog.info? 26).map (fun i => (i.zero, i.size, i.bytes)) = some (some zeroVC, 6, 104) := by kernel_rfl
theorem info_string : (Tryz.prog.info? 9).map (fun i => (i.zero, i.size, i.bytes)) = some (some (.string ByteArray.empty), 1, 16) := by kernel_rfl
theorem info_any : (Tryz.prog.info? 20).map (fun i => (i.zero, i.size, i.bytes)) = some (some .nilIface, 1, 16) := by kernel_rfl

theorem arr_cells (c : VC) : ∀ u ∈ c.arr.toList, u.oneCell' = true := by
  intro u hu
  simp [VC.arr] at hu
  rcases hu with rfl | rfl | rfl | rfl | rfl | rfl <;> rfl

theorem Box.set3 {w : World} {N : Nat} {c : VC} (h : Box w N c) (a : Option Addr) (n k : Nat) : Box (w.setCell ⟨N, 3, none⟩ (.slice a n k)) N {c with la := a, ll := n, lc := k} := heap_setCell_same w ⟨N, 3, none⟩ _ h rfl
theorem Box.set4 {w : World} {N : Nat} {c : VC} (h : Box w N c) (a : Option Addr) (n k : Nat) : Box (w.setCell ⟨N, 4, none⟩ (.slice a n k)) N {c with ka := a, kl := n, kc := k} := heap_setCell_same w ⟨N, 4, none⟩ _ h rfl
theorem Box.set5 {w : World} {N : Nat} {c : VC} (h : Box w N c) (a : Option Addr) (n k : Nat) : Box (w.setCell ⟨N, 5, none⟩ (.slice a n k)) N {c with va := a, vl := n, vc := k} := heap_setCell_same w ⟨N, 5, none⟩ _ h rfl

theorem Box.kept' {w w' : World} {N : Nat} {c : VC} {row : Option Nat} (h : Box w N c) (hg : w.grownBy w' row) (hne : some N ≠ row) : Box w' N c := (hg.block N h.lt hne).trans h

theorem Box.far {w : World} {N : Nat} {c : VC} (h : Box w N c) {a : Addr} (u : Value) (hne : N ≠ a.block) : Box (w.setCell a u) N c := (Below.heap_setCell _ _ _ _ hne).trans h

/-- The cells of a Value, stored one by one. -/
def valStored (w : World) (N : Nat) (c : VC) : World :=
  (((((w.setCell ⟨N, 0, none⟩ (.int .i64 c.k)).setCell ⟨N, 1, none⟩ (.int .i64 c.h)).setCell ⟨N, 2, none⟩ (.string c.s)).setCell ⟨N, 3, none⟩ (.slice c.la c.ll c.lc)).setCell ⟨N, 4, none⟩ (.slice c.ka c.kl c.kc)).setCell ⟨N, 5, none⟩ (.slice c.va c.vl c.vc)
theorem valStored_below {B N : Nat} {a w : World} {c : VC} (h : Below B a w) (hB : B ≤ N) : Below B a (valStored w N c) :=
  (((((h.setCell hB _).setCell hB _).setCell hB _).setCell hB _).setCell hB _).setCell hB _
theorem valStored_block {N : Nat} {w : World} {c : VC} {b : Nat} (hb : b ≠ N) : (valStored w N c).heap[b]? = w.heap[b]? := by
  unfold valStored
  rw [Below.heap_setCell _ _ _ _ hb, Below.heap_setCell _ _ _ _ hb, Below.heap_setCell _ _ _ _ hb, Below.heap_setCell _ _ _ _ hb, Below.heap_setCell _ _ _ _ hb, Below.heap_setCell _ _ _ _ hb]
theorem valStored_size {N : Nat} {w : World} {c : VC} : (valStored w N c).heap.size = w.heap.size := by simp [valStored]
/-- A reading that lies behind the box it is stored into. -/
theorem VR.stored {w : World} {N lo lo' : Nat} {j : J} {c c' : VC} (h : VR w (New lo w) j c) (hN : N < lo) (hlo : lo' ≤ lo) : VR (valStored w N c') (New lo' (valStored w N c')) j c :=
  h.go (fun b hb => valStored_block (by have := hb.1; omega)) (fun b hb => ⟨by have := hb.1; omega, by rw [valStored_size]; exact hb.2⟩)

/-- m elements have been taken over into a row v of their own. -/
def Got (lo : Nat) (l : List J) (v : Value) (xs : List VC) (wr : World) : Prop :=
  wr.ownsRow lo 26 6 v xs.length (cellsOf xs) ∧ ∀ i (_ : i < l.length) (h : i < xs.length), VR wr (fun b => New lo wr b ∧ some b ≠ v.ownBlock) l[i] xs[i]

theorem Got.nil (lo : Nat) (l : List J) (wr : World) : Got lo l (.slice none 0 0) [] wr := ⟨World.ownsRow_nil _ _ _ _, fun i _ h => absurd h (Nat.not_lt_zero i)⟩

theorem Got.below {lo : Nat} {l : List J} {v : Value} {xs : List VC} {w w' : World} (h : Got lo l v xs w) (hb : Below w.heap.size w w') : Got lo l v xs w' :=
  ⟨row_below h.1 hb, fun i hi hx => (h.2 i hi hx).go (fun b hb' => hb.block b hb'.1.2) (fun _ hb' => ⟨⟨hb'.1.1, Nat.lt_of_lt_of_le hb'.1.2 hb.size⟩, hb'.2⟩)⟩

theorem Got.cell {lo : Nat} {l : List J} {v : Value} {xs : List VC} {w : World} (h : Got lo l v xs w) {a : Addr} (ha : a.block < lo) (u : Value) : Got lo l v xs (w.setCell a u) := by
  refine ⟨ownsRow_setCell_below h.1 ha u, fun i hi hx => (h.2 i hi hx).go (fun b hb => Below.heap_setCell _ _ _ _ (by have := hb.1.1; omega)) (fun b hb => ⟨⟨hb.1.1, ?_⟩, hb.2⟩)⟩
  have := hb.1.2
  simpa [World.setCell] using this

theorem own_slice (g n cap : Nat) : Value.ownBlock (.slice (some ⟨g, 0, none⟩) n cap) = some g := rfl

/-- One more element, whose reading lies in blocks from lo' on, none of them the row. -/
theorem Got.step {lo lo' : Nat} {l : List J} {v : Value} {xs : List VC} {c : VC} {w w1 : World} {g n cap H : Nat} (h : Got lo l v xs w) (hx : xs.length < l.length)
    (hown : w1.ownsRow lo 26 6 (.slice (some ⟨g, 0, none⟩) n cap) n (cellsOf xs ++ c.arr.toList)) (hn : n = xs.length + 1) (hgrow : w.grownBy w1 v.ownBlock) (hat : v.ownBlock = some g ∨ g = H) (hH : w.heap.size ≤ H)
    (hlo : lo ≤ lo') (hv : ∀ k, v.ownBlock = some k → k < lo') (hV : VR w (New lo' w) l[xs.length] c) :
    Got lo l (.slice (some ⟨g, 0, none⟩) n cap) (xs ++ [c]) w1 := by
  subst hn
  refine ⟨by simpa [cellsOf_append, cellsOf_one] using hown, fun i hi hx' => ?_⟩
  have hne : ∀ b, New lo w b → some b ≠ v.ownBlock → some b ≠ (Value.slice (some ⟨g, 0, none⟩) (xs.length + 1) cap).ownBlock := by
    intro b hb hbv e
    rw [own_slice] at e
    simp only [Option.some.injEq] at e
    rcases hat with h1 | h1
    · exact hbv (by rw [h1, e])
    · have := hb.2; omega
  have hs : ∀ b, New lo w b ∧ some b ≠ v.ownBlock → New lo w1 b ∧ some b ≠ (Value.slice (some ⟨g, 0, none⟩) (xs.length + 1) cap).ownBlock :=
    fun b hb => ⟨⟨hb.1.1, Nat.lt_of_lt_of_le hb.1.2 hgrow.size⟩, hne b hb.1 hb.2⟩
  rcases Nat.lt_or_ge i xs.length with hlt | hge
  · rw [List.getElem_append_left hlt]
    exact (h.2 i hi hlt).go (fun b hb => hgrow.block b hb.1.2 hb.2) hs
  · obtain rfl : i = xs.length := by simp at hx'; omega
    have e : (xs ++ [c])[xs.length] = c := by simp
    rw [e]
    have hb0 : ∀ b, New lo' w b → New lo w b ∧ some b ≠ v.ownBlock := fun b hb => ⟨⟨by have := hb.1; omega, hb.2⟩, fun e => by have := hv b e.symm; have := hb.1; omega⟩
    exact (hV.mono hb0).go (fun b hb => hgrow.block b hb.1.2 hb.2) hs

/-- A box that lies ahead of the row, behind two allocs and an append. -/
theorem Box.behind {w2 w3 : World} {o1 o2 : Obj} {N lo : Nat} {c : VC} {t : TypeId} {size n : Nat} {v : Value} {xs : List Value} (hB : Box w2 N c) (hown : w2.ownsRow lo t size v n xs) (hlo : N < lo) (hg : ((w2.alloc o1).alloc o2).grownBy w3 v.ownBlock) : Box w3 N c := by
  have h1 := hB.below ((Below.refl (N + 1) w2).alloc hB.lt o1 |>.alloc (by simp; have := hB.lt; omega) o2) (by omega)
  exact h1.kept' hg (fun e => by have := (hown.lt N e.symm).1; omega)
/-- A row that is nil has no capacity. -/
theorem own_none {w : World} {base size n cap : Nat} {e : TypeId} {a : Option Addr} {xs : List Value} (h : w.ownsRow base e size (.slice a n cap) n xs) : a = none → cap = 0 := by
  rcases h.2 with ⟨h1, _⟩ | ⟨g, cap', cur, h1, _⟩
  · cases h1; exact fun _ => rfl
  · cases h1; intro h; cases h
/-- A row's length is at most its capacity. -/
theorem own_cap {w : World} {base size n cap : Nat} {e : TypeId} {a : Option Addr} {xs : List Value} (h : w.ownsRow base e size (.slice a n cap) n xs) : n ≤ cap := by
  rcases h.2 with ⟨h1, h2⟩ | ⟨g, cap', cur, h1, _, _, h2, _⟩
  · omega
  · cases h1; exact h2
end Go.Proofs.YtbdciilkapgfjaaGreatDoor
