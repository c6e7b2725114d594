/- A part of the proof. -/
import Derived.Test.YtfgmegfgifeaiaaGreatDoorM20
import Derived.Test.YtfgmegfgifeaiaaGreatDoorZSlices
namespace Go.Proofs.YtfgmegfgifeaiaaGreatDoor
open Go.RowKit

theorem Rises.get {m : List (ByteArray × J)} (h : Rises m) {i j : Nat} (hj : j < m.length) (hij : i < j) : Lt (m[i]'(by omega)).1 m[j].1 := by
  unfold Rises at h
  exact List.pairwise_iff_getElem.1 h i j (by omega) hj hij

/-- What is ahead of a key, by its place. -/
theorem filter_ahead {m : List (ByteArray × J)} {key : ByteArray} {n : Nat} (hr : Rises m) (h1 : ∀ x (_ : x < m.length), x < n → Lt m[x].1 key) (h2 : ∀ h : n < m.length, ¬ Lt m[n].1 key) :
    m.filter (fun p => decide (Lt p.1 key)) = m.take n := by
  conv => lhs; rw [← List.take_append_drop n m]
  rw [List.filter_append]
  have e1 : (m.take n).filter (fun p => decide (Lt p.1 key)) = m.take n := List.filter_eq_self.2 fun p hp => by
    obtain ⟨i, hi, rfl⟩ := List.getElem_of_mem hp
    rw [List.getElem_take]
    simp only [List.length_take] at hi
    simpa using h1 i (by omega) (by omega)
  have e2 : (m.drop n).filter (fun p => decide (Lt p.1 key)) = [] := List.filter_eq_nil_iff.2 fun p hp => by
    obtain ⟨i, hi, rfl⟩ := List.getElem_of_mem hp
    rw [List.getElem_drop]
    simp only [List.length_drop] at hi
    have hn : n < m.length := by omega
    simp only [decide_eq_true_eq]
    intro h
    rcases Nat.eq_zero_or_pos i with rfl | hpos
    · exact h2 hn (by simpa using h)
    · exact h2 hn ((hr.get (by omega) (by omega : n < n + i)).trans h)
  rw [e1, e2, List.append_nil]

/-- What is behind it. -/
theorem filter_behind {m : List (ByteArray × J)} {key : ByteArray} {n n' : Nat} (hr : Rises m) (hn : n ≤ m.length) (h1 : ∀ x (_ : x < m.length), x < n → Lt m[x].1 key) (h2 : ∀ h : n < m.length, ¬ Lt m[n].1 key)
    (h3 : (key ∈ m.map (·.1) ∧ n' = n + 1) ∨ (key ∉ m.map (·.1) ∧ n' = n)) : m.filter (fun p => decide (Lt key p.1)) = m.drop n' ∧ n' ≤ m.length := by
  have at_n : key ∈ m.map (·.1) → ∃ h : n < m.length, m[n].1 = key := by
    intro hk
    obtain ⟨p, hp, e⟩ := List.mem_map.1 hk
    obtain ⟨i, hi, rfl⟩ := List.getElem_of_mem hp
    rcases Nat.lt_trichotomy i n with h | h | h
    · have := h1 i hi h; rw [e] at this; exact absurd this (Lt.irrefl _)
    · subst h; exact ⟨hi, e⟩
    · have h5 := hr.get hi h
      rw [e] at h5
      exact absurd h5 (h2 (by omega))
  have e1 : (m.take n).filter (fun p => decide (Lt key p.1)) = [] := List.filter_eq_nil_iff.2 fun p hp => by
    obtain ⟨i, hi, rfl⟩ := List.getElem_of_mem hp
    rw [List.getElem_take]
    simp only [List.length_take] at hi
    simp only [decide_eq_true_eq]
    intro h
    exact Lt.irrefl _ (h.trans (h1 i (by omega) (by omega)))
  have hsplit : m.filter (fun p => decide (Lt key p.1)) = (m.drop n).filter (fun p => decide (Lt key p.1)) := by
    conv => lhs; rw [← List.take_append_drop n m]
    rw [List.filter_append, e1, List.nil_append]
  rcases h3 with ⟨hk, rfl⟩ | ⟨hk, rfl⟩
  · obtain ⟨hlt, e⟩ := at_n hk
    refine ⟨?_, by omega⟩
    rw [hsplit, List.drop_eq_getElem_cons hlt, List.filter_cons_of_neg (by rw [e]; simpa using Lt.irrefl key)]
    refine List.filter_eq_self.2 fun p hp => ?_
    obtain ⟨i, hi, rfl⟩ := List.getElem_of_mem hp
    rw [List.getElem_drop]
    simp only [List.length_drop] at hi
    have := hr.get (i := n) (j := n + 1 + i) (by omega) (by omega)
    rw [e] at this
    simpa using this
  · refine ⟨?_, hn⟩
    rw [hsplit]
    refine List.filter_eq_self.2 fun p hp => ?_
    obtain ⟨i, hi, rfl⟩ := List.getElem_of_mem hp
    rw [List.getElem_drop]
    simp only [List.length_drop] at hi
    have hlt : n' < m.length := by omega
    have h0 : Lt key m[n'].1 := by
      rcases lt_or m[n'].1 key with h | h | h
      · exact absurd h (h2 hlt)
      · exact absurd (List.mem_map.2 ⟨_, List.getElem_mem hlt, h⟩) hk
      · exact h
    rcases Nat.eq_zero_or_pos i with rfl | hpos
    · simpa using h0
    · simpa using h0.trans (hr.get (by omega) (by omega : n' < n' + i))

/-- An object with a value at a key, by the key's place. -/
theorem withJ_at {m : List (ByteArray × J)} {key : ByteArray} {v : J} {n n' : Nat} (hr : Rises m) (hn : n ≤ m.length) (h1 : ∀ x (_ : x < m.length), x < n → Lt m[x].1 key) (h2 : ∀ h : n < m.length, ¬ Lt m[n].1 key)
    (h3 : (key ∈ m.map (·.1) ∧ n' = n + 1) ∨ (key ∉ m.map (·.1) ∧ n' = n)) : withJ m key v = m.take n ++ (key, v) :: m.drop n' ∧ n' ≤ m.length := by
  unfold withJ
  obtain ⟨e, h4⟩ := filter_behind hr hn h1 h2 h3
  rw [filter_ahead hr h1 h2, e]
  exact ⟨rfl, h4⟩

/-- The rows of an object under way, in a box of its own. -/
structure WithAt (w : World) (c d : VC) (N : Nat) (ka : Option Addr) (kl kc : Nat) (va : Option Addr) (vl vc : Nat) (ks cs : List Value) (wx : World) : Prop where
  low : Below w.heap.size w wx
  bc : Box wx w.heap.size c
  bd : Box wx (w.heap.size + 1) d
  br : Box wx (w.heap.size + 1 + 1) VC.nil
  out : Box wx N ⟨6, 0, ByteArray.empty, none, 0, 0, ka, kl, kc, va, vl, vc⟩
  keys : wx.ownsRow (N + 1) 9 1 (.slice ka kl kc) kl ks
  vals : wx.ownsRow (N + 1) 26 6 (.slice va vl vc) vl cs
  apart : ∀ b, (Value.slice ka kl kc).ownBlock = some b → (Value.slice va vl vc).ownBlock ≠ some b
  hN : w.heap.size + 2 < N

/-- The keys' row has turned. -/
theorem WithAt.setK {w : World} {c d : VC} {N : Nat} {ka va : Option Addr} {kl kc vl vc : Nat} {ks cs : List Value} {wx w' : World} (h : WithAt w c d N ka kl kc va vl vc ks cs wx) {p : Option Addr} {n q : Nat} {ks' : List Value}
    (hown : w'.ownsRow (N + 1) 9 1 (.slice p n q) n ks') (hb : ∀ b, b < wx.heap.size → some b ≠ (Value.slice ka kl kc).ownBlock → w'.heap[b]? = wx.heap[b]?) (hp : ∀ b, (Value.slice p n q).ownBlock = some b → wx.heap.size ≤ b ∨ (Value.slice ka kl kc).ownBlock = some b)
    (hlow : Below N wx w') : WithAt w c d N p n q va vl vc ks' cs (w'.setCell ⟨N, 4, none⟩ (.slice p n q)) := by
  have hN := h.hN
  have kb : ∀ b, (Value.slice ka kl kc).ownBlock = some b → N + 1 ≤ b := fun b e => (h.keys.lt b e).1
  have keep : ∀ b, b < N → w'.heap[b]? = wx.heap[b]? := fun b hlt => hlow.block b hlt
  have keepN : w'.heap[N]? = wx.heap[N]? := hb N h.out.lt (fun e => by have := kb N e.symm; omega)
  have far : ∀ b, b ≠ N → (w'.setCell ⟨N, 4, none⟩ (.slice p n q)).heap[b]? = w'.heap[b]? := fun b hne => Below.heap_setCell _ _ _ _ hne
  have hwN : w.heap.size ≤ N := by omega
  refine ⟨(h.low.trans (hlow.mono hwN)).setCell (by omega) _, (far _ (by omega)).trans ((keep _ (by omega)).trans h.bc), (far _ (by omega)).trans ((keep _ (by omega)).trans h.bd), (far _ (by omega)).trans ((keep _ (by omega)).trans h.br), ?_, ?_, ?_, fun b e1 e2 => ?_, hN⟩
  · exact Box.set4 (c := ⟨6, 0, ByteArray.empty, none, 0, 0, ka, kl, kc, va, vl, vc⟩) (keepN.trans h.out) p n q
  · exact row_same hown fun g hg => far g (by have := (hown.lt g hg).1; omega)
  · refine row_same h.vals fun g hg => (far g (by have := (h.vals.lt g hg).1; omega)).trans (hb g (h.vals.lt g hg).2 fun e => h.apart g e.symm hg)
  · rcases hp b e1 with h1 | h1
    · have := (h.vals.lt b e2).2; omega
    · exact h.apart b h1 e2
theorem WithAt.setV {w : World} {c d : VC} {N : Nat} {ka va : Option Addr} {kl kc vl vc : Nat} {ks cs : List Value} {wx w' : World} (h : WithAt w c d N ka kl kc va vl vc ks cs wx) {p : Option Addr} {n q : Nat} {cs' : List Value}
    (hown : w'.ownsRow (N + 1) 26 6 (.slice p n q) n cs') (hb : ∀ b, b < wx.heap.size → some b ≠ (Value.slice va vl vc).ownBlock → w'.heap[b]? = wx.heap[b]?) (hp : ∀ b, (Value.slice p n q).ownBlock = some b → wx.heap.size ≤ b ∨ (Value.slice va vl vc).ownBlock = some b)
    (hlow : Below N wx w') : WithAt w c d N ka kl kc p n q ks cs' (w'.setCell ⟨N, 5, none⟩ (.slice p n q)) := by
  have hN := h.hN
  have kb : ∀ b, (Value.slice va vl vc).ownBlock = some b → N + 1 ≤ b := fun b e => (h.vals.lt b e).1
  have keep : ∀ b, b < N → w'.heap[b]? = wx.heap[b]? := fun b hlt => hlow.block b hlt
  have keepN : w'.heap[N]? = wx.heap[N]? := hb N h.out.lt (fun e => by have := kb N e.symm; omega)
  have far : ∀ b, b ≠ N → (w'.setCell ⟨N, 5, none⟩ (.slice p n q)).heap[b]? = w'.heap[b]? := fun b hne => Below.heap_setCell _ _ _ _ hne
  have hwN : w.heap.size ≤ N := by omega
  refine ⟨(h.low.trans (hlow.mono hwN)).setCell (by omega) _, (far _ (by omega)).trans ((keep _ (by omega)).trans h.bc), (far _ (by omega)).trans ((keep _ (by omega)).trans h.bd), (far _ (by omega)).trans ((keep _ (by omega)).trans h.br), ?_, ?_, ?_, fun b e1 e2 => ?_, hN⟩
  · exact Box.set5 (c := ⟨6, 0, ByteArray.empty, none, 0, 0, ka, kl, kc, va, vl, vc⟩) (keepN.trans h.out) p n q
  · refine row_same h.keys fun g hg => (far g (by have := (h.keys.lt g hg).1; omega)).trans (hb g (h.keys.lt g hg).2 fun e => h.apart g hg e.symm)
  · exact row_same hown fun g hg => far g (by have := (hown.lt g hg).1; omega)
  · rcases hp b e2 with h1 | h1
    · have := (h.keys.lt b e1).2; omega
    · exact h.apart b e1 h1
/-- An object read off two rows that a call owns. -/
theorem obj_read {w : World} {lo : Nat} {S : Nat → Prop} {m : List (ByteArray × J)} {ys : List VC} {ka va : Option Addr} {kl kc vl vc : Nat} (hk : w.ownsRow lo 9 1 (.slice ka kl kc) kl (m.map fun p => .string p.1)) (hv : w.ownsRow lo 26 6 (.slice va vl vc) vl (cellsOf ys))
    (hy : ys.length = m.length) (rd : ∀ i (_ : i < m.length) (h : i < ys.length), VR w S m[i].2 ys[i]) : VR w (fun b => S b ∨ New lo w b) (.obj m) ⟨6, 0, ByteArray.empty, none, 0, 0, ka, kl, kc, va, vl, vc⟩ := by
  have hkl : kl = m.length := by have := hk.1; simpa using this.symm
  have hvl : vl = m.length := by have := hv.1; rw [cellsOf_length] at this; omega
  rw [VR]
  refine ⟨⟨rfl, rfl, rfl, rfl, hkl, hvl, Nat.le_refl _, own_cap hk, own_cap hv, fun _ => rfl, own_none hk, own_none hv⟩, fun i hi => ?_, fun i hi => ?_, fun i hi => ?_⟩
  · simp [J.list] at hi
  · have hi' : i < m.length := hi
    obtain ⟨g, cap', e, hg, hlt⟩ := hk.form (by omega)
    cases e
    have hc := hk.cells (g := g) rfl i (.string m[i].1) (by simp [hi'])
    rw [addr_add] at hc
    exact ⟨g, 0, rfl, Or.inr ⟨hg, hlt⟩, hc⟩
  · have hi' : i < m.length := hi
    have hx' : i < ys.length := by omega
    obtain ⟨g, cap', e, hg, hlt⟩ := hv.form (by omega)
    cases e
    have h6 := row_at6 hv (g := g) rfl hx'
    exact ⟨g, 0, ys[i], rfl, Or.inr ⟨hg, hlt⟩, by simpa using h6, (rd i hi' hx').mono (fun b hb => Or.inl hb)⟩

theorem cellsOf_split (xs : List VC) {n : Nat} (hn : n ≤ xs.length) : (cellsOf xs).take (n * 6) = cellsOf (xs.take n) ∧ (cellsOf xs).drop (n * 6) = cellsOf (xs.drop n) := by
  have e : cellsOf xs = cellsOf (xs.take n) ++ cellsOf (xs.drop n) := by rw [← cellsOf_append, List.take_append_drop]
  have hl : (cellsOf (xs.take n)).length = n * 6 := by rw [cellsOf_length, List.length_take, Nat.min_eq_left hn]
  constructor
  · rw [e, List.take_left' hl]
  · rw [e, List.drop_left' hl]

/-- The readings of an object with a value at a key. -/
theorem with_rd {w : World} {S : Nat → Prop} {m : List (ByteArray × J)} {xs : List VC} {key : ByteArray} {v : J} {d : VC} {n n' : Nat} (hxl : xs.length = m.length) (hx : ∀ i (_ : i < m.length) (h : i < xs.length), VR w S m[i].2 xs[i]) (hd : VR w S v d) (hn : n ≤ m.length) (hn' : n' ≤ m.length) :
    (xs.take n ++ d :: xs.drop n').length = (m.take n ++ (key, v) :: m.drop n').length ∧ ∀ i (_ : i < (m.take n ++ (key, v) :: m.drop n').length) (h : i < (xs.take n ++ d :: xs.drop n').length), VR w S (m.take n ++ (key, v) :: m.drop n')[i].2 (xs.take n ++ d :: xs.drop n')[i] := by
  refine ⟨by simp [hxl], fun i hi h => ?_⟩
  rcases Nat.lt_trichotomy i n with h1 | h1 | h1
  · have e1 : (m.take n ++ (key, v) :: m.drop n')[i] = m[i]'(by omega) := by rw [List.getElem_append_left (by simp; omega), List.getElem_take]
    have e2 : (xs.take n ++ d :: xs.drop n')[i] = xs[i]'(by omega) := by rw [List.getElem_append_left (by simp; omega), List.getElem_take]
    rw [e1, e2]
    exact hx i (by omega) (by omega)
  · subst h1
    have e1 : (m.take i ++ (key, v) :: m.drop n')[i] = (key, v) := by rw [List.getElem_append_right (by simp; omega)]; simp [Nat.min_eq_left hn]
    have e2 : (xs.take i ++ d :: xs.drop n')[i] = d := by rw [List.getElem_append_right (by simp; omega)]; simp [Nat.min_eq_left (hxl ▸ hn)]
    rw [e1, e2]
    exact hd
  · have hi2 : i - n - 1 + n' < m.length := by simp at hi; omega
    have e1 : (m.take n ++ (key, v) :: m.drop n')[i] = m[n' + (i - n - 1)]'(by omega) := by
      rw [List.getElem_append_right (by simp; omega)]
      simp only [List.length_take, Nat.min_eq_left hn]
      rw [List.getElem_cons, dif_neg (by omega), List.getElem_drop]
    have e2 : (xs.take n ++ d :: xs.drop n')[i] = xs[n' + (i - n - 1)]'(by omega) := by
      rw [List.getElem_append_right (by simp; omega)]
      simp only [List.length_take, Nat.min_eq_left (hxl ▸ hn)]
      rw [List.getElem_cons, dif_neg (by omega), List.getElem_drop]
    rw [e1, e2]
    exact hx _ (by omega) (by omega)
/-- A Value that is stored as the result. -/
theorem spec_end {w w6 : World} {S : Nat → Prop} {j : J} {N lo : Nat} (x : VC) (hlow : Below w.heap.size w w6) (hN : w.heap.size ≤ N) (hS : ∀ b, S b → b < w.heap.size) (hlo : N < lo) (hv : VR w6 (fun b => S b ∨ New lo w6 b) j x) :
    ∃ y, Ending.returned x.val = .returned (VC.val y) ∧ VR (valStored w6 N x) (fun b => S b ∨ New w.heap.size (valStored w6 N x) b) j y ∧ Below w.heap.size w (valStored w6 N x) :=
  ⟨x, rfl, hv.go (fun b hb => valStored_block (by rcases hb with h | h; have := hS b h; omega; have := h.1; omega)) (fun b hb => hb.imp (fun h => h) (fun h => ⟨by have := h.1; omega, by rw [valStored_size]; exact h.2⟩)), valStored_below hlow hN⟩
theorem one_take {l : List Value} {n : Nat} (h : ∀ u ∈ l, u.oneCell' = true) : ∀ u ∈ l.take n, u.oneCell' = true := fun u hu => h u (List.mem_of_mem_take hu)
theorem one_drop {l : List Value} {n : Nat} (h : ∀ u ∈ l, u.oneCell' = true) : ∀ u ∈ l.drop n, u.oneCell' = true := fun u hu => h u (List.mem_of_mem_drop hu)
theorem strings_one (m : List (ByteArray × J)) : ∀ u ∈ m.map (fun p => Value.string p.1), u.oneCell' = true := by
  intro u hu
  obtain ⟨p, _, rfl⟩ := List.mem_map.1 hu
  rfl
end Go.Proofs.YtfgmegfgifeaiaaGreatDoor
