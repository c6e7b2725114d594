/- A part of the proof. A part of the proof. -/
import Derived.Test.YtnaijgdffbfapaaGreatDoorM20
import Derived.Test.YtnaijgdffbfapaaGreatDoorZSlices
import Derived.Test.YtnaijgdffbfapaaGreatDoorM12
import Derived.Test.YtnaijgdffbfapaaGreatDoorZRow
import Derived.Test.YtnaijgdffbfapaaGreatDoorM28
import Derived.LoopTactic
namespace Go.Proofs.YtnaijgdffbfapaaGreatDoor
open Go.RowKit

theorem Rises.get {m : List (ByteArray × J)} (h : Rises m) {i j : Nat} (hj : j < m.length) (hij : i < j) : Lt (m[i]'(by omega)).1 m[j].1 := by
  unfold Rises at h
  exact List.pairwise_iff_getElem.1 h i j (by omega) hj hij

/-- What is ahead of a key, by its place. -/
theorem filter_ahead {m : List (ByteArray × J)} {key : ByteArray} {n : Nat} (hr : Rises m) (h1 : ∀ x (_ : x < m.length), x < n → Lt m[x].1 key) (h2 : ∀ h : n < m.length, ¬ Lt m[n].1 key) :
    m.filter (fun p => decide (Lt p.1 key)) = m.take n := by
  conv => lhs; rw [← List.take_append_drop n m]
  rw [List.filter_append]
  have e1 : (m.take n).filter (fun p => decide (Lt p.1 key)) = m.take n := List.filter_eq_self.2 fun p hp => by
    obtain ⟨i, hi, rfl⟩ := List.getElem_of_mem hp
    rw [List.getElem_take]
    simp only [List.length_take] at hi
    simpa using h1 i (by omega) (by omega)
  have e2 : (m.drop n).filter (fun p => decide (Lt p.1 key)) = [] := List.filter_eq_nil_iff.2 fun p hp => by
    obtain ⟨i, hi, rfl⟩ := List.getElem_of_mem hp
    rw [List.getElem_drop]
    simp only [List.length_drop] at hi
    have hn : n < m.length := by omega
    simp only [decide_eq_true_eq]
    intro h
    rcases Nat.eq_zero_or_pos i with rfl | hpos
    · exact h2 hn (by simpa using h)
    · exact h2 hn ((hr.get (by omega) (by omega : n < n + i)).trans h)
  rw [e1, e2, List.append_nil]

/-- What is behind it. -/
theorem filter_behind {m : List (ByteArray × J)} {key : ByteArray} {n n' : Nat} (hr : Rises m) (hn : n ≤ m.length) (h1 : ∀ x (_ : x < m.length), x < n → Lt m[x].1 key) (h2 : ∀ h : n < m.length, ¬ Lt m[n].1 key)
    (h3 : (key ∈ m.map (·.1) ∧ n' = n + 1) ∨ (key ∉ m.map (·.1) ∧ n' = n)) : m.filter (fun p => decide (Lt key p.1)) = m.drop n' ∧ n' ≤ m.length := by
  have at_n : key ∈ m.map (·.1) → ∃ h : n < m.length, m[n].1 = key := by
    intro hk
    obtain ⟨p, hp, e⟩ := List.mem_map.1 hk
    obtain ⟨i, hi, rfl⟩ := List.getElem_of_mem hp
    rcases Nat.lt_trichotomy i n with h | h | h
    · have := h1 i hi h; rw [e] at this; exact absurd this (Lt.irrefl _)
    · subst h; exact ⟨hi, e⟩
    · have h5 := hr.get hi h
      rw [e] at h5
      exact absurd h5 (h2 (by omega))
  have e1 : (m.take n).filter (fun p => decide (Lt key p.1)) = [] := List.filter_eq_nil_iff.2 fun p hp => by
    obtain ⟨i, hi, rfl⟩ := List.getElem_of_mem hp
    rw [List.getElem_take]
    simp only [List.length_take] at hi
    simp only [decide_eq_true_eq]
    intro h
    exact Lt.irrefl _ (h.trans (h1 i (by omega) (by omega)))
  have hsplit : m.filter (fun p => decide (Lt key p.1)) = (m.drop n).filter (fun p => decide (Lt key p.1)) := by
    conv => lhs; rw [← List.take_append_drop n m]
    rw [List.filter_append, e1, List.nil_append]
  rcases h3 with ⟨hk, rfl⟩ | ⟨hk, rfl⟩
  · obtain ⟨hlt, e⟩ := at_n hk
    refine ⟨?_, by omega⟩
    rw [hsplit, List.drop_eq_getElem_cons hlt, List.filter_cons_of_neg (by rw [e]; simpa using Lt.irrefl key)]
    refine List.filter_eq_self.2 fun p hp => ?_
    obtain ⟨i, hi, rfl⟩ := List.getElem_of_mem hp
    rw [List.getElem_drop]
    simp only [List.length_drop] at hi
    have := hr.get (i := n) (j := n + 1 + i) (by omega) (by omega)
    rw [e] at this
    simpa using this
  · refine ⟨?_, hn⟩
    rw [hsplit]
    refine List.filter_eq_self.2 fun p hp => ?_
    obtain ⟨i, hi, rfl⟩ := List.getElem_of_mem hp
    rw [List.getElem_drop]
    simp only [List.length_drop] at hi
    have hlt : n' < m.length := by omega
    have h0 : Lt key m[n'].1 := by
      rcases lt_or m[n'].1 key with h | h | h
      · exact absurd h (h2 hlt)
      · exact absurd (List.mem_map.2 ⟨_, List.getElem_mem hlt, h⟩) hk
      · exact h
    rcases Nat.eq_zero_or_pos i with rfl | hpos
    · simpa using h0
    · simpa using h0.trans (hr.get (by omega) (by omega : n' < n' + i))

/-- An object with a value at a key, by the key's place. -/
theorem withJ_at {m : List (ByteArray × J)} {key : ByteArray} {v : J} {n n' : Nat} (hr : Rises m) (hn : n ≤ m.length) (h1 : ∀ x (_ : x < m.length), x < n → Lt m[x].1 key) (h2 : ∀ h : n < m.length, ¬ Lt m[n].1 key)
    (h3 : (key ∈ m.map (·.1) ∧ n' = n + 1) ∨ (key ∉ m.map (·.1) ∧ n' = n)) : withJ m key v = m.take n ++ (key, v) :: m.drop n' ∧ n' ≤ m.length := by
  unfold withJ
  obtain ⟨e, h4⟩ := filter_behind hr hn h1 h2 h3
  rw [filter_ahead hr h1 h2, e]
  exact ⟨rfl, h4⟩

/-- The rows of an object under way, in a box of its own. -/
structure WithAt (w : World) (c d : VC) (N : Nat) (ka : Option Addr) (kl kc : Nat) (va : Option Addr) (vl vc : Nat) (ks cs : List Value) (wx : World) : Prop where
  low : Below w.heap.size w wx
  bc : Box wx w.heap.size c
  bd : Box wx (w.heap.size + 1) d
  br : Box wx (w.heap.size + 1 + 1) VC.nil
  out : Box wx N ⟨6, 0, ByteArray.empty, none, 0, 0, ka, kl, kc, va, vl, vc⟩
  keys : wx.ownsRow (N + 1) 9 1 (.slice ka kl kc) kl ks
  vals : wx.ownsRow (N + 1) 26 6 (.slice va vl vc) vl cs
  apart : ∀ b, (Value.slice ka kl kc).ownBlock = some b → (Value.slice va vl vc).ownBlock ≠ some b
  hN : w.heap.size + 2 < N

/-- The keys' row has turned. -/
theorem WithAt.setK {w : World} {c d : VC} {N : Nat} {ka va : Option Addr} {kl kc vl vc : Nat} {ks cs : List Value} {wx w' : World} (h : WithAt w c d N ka kl kc va vl vc ks cs wx) {p : Option Addr} {n q : Nat} {ks' : List Value}
    (hown : w'.ownsRow (N + 1) 9 1 (.slice p n q) n ks') (hb : ∀ b, b < wx.heap.size → some b ≠ (Value.slice ka kl kc).ownBlock → w'.heap[b]? = wx.heap[b]?) (hp : ∀ b, (Value.slice p n q).ownBlock = some b → wx.heap.size ≤ b ∨ (Value.slice ka kl kc).ownBlock = some b)
    (hlow : Below N wx w') : WithAt w c d N p n q va vl vc ks' cs (w'.setCell ⟨N, 4, none⟩ (.slice p n q)) := by
  have hN := h.hN
  have kb : ∀ b, (Value.slice ka kl kc).ownBlock = some b → N + 1 ≤ b := fun b e => (h.keys.lt b e).1
  have keep : ∀ b, b < N → w'.heap[b]? = wx.heap[b]? := fun b hlt => hlow.block b hlt
  have keepN : w'.heap[N]? = wx.heap[N]? := hb N h.out.lt (fun e => by have := kb N e.symm; omega)
  have far : ∀ b, b ≠ N → (w'.setCell ⟨N, 4, none⟩ (.slice p n q)).heap[b]? = w'.heap[b]? := fun b hne => Below.heap_setCell _ _ _ _ hne
  have hwN : w.heap.size ≤ N := by omega
  refine ⟨(h.low.trans (hlow.mono hwN)).setCell (by omega) _, (far _ (by omega)).trans ((keep _ (by omega)).trans h.bc), (far _ (by omega)).trans ((keep _ (by omega)).trans h.bd), (far _ (by omega)).trans ((keep _ (by omega)).trans h.br), ?_, ?_, ?_, fun b e1 e2 => ?_, hN⟩
  · exact Box.set4 (c := ⟨6, 0, ByteArray.empty, none, 0, 0, ka, kl, kc, va, vl, vc⟩) (keepN.trans h.out) p n q
  · exact row_same hown fun g hg => far g (by have := (hown.lt g hg).1; omega)
  · refine row_same h.vals fun g hg => (far g (by have := (h.vals.lt g hg).1; omega)).trans (hb g (h.vals.lt g hg).2 fun e => h.apart g e.symm hg)
  · rcases hp b e1 with h1 | h1
    · have := (h.vals.lt b e2).2; omega
    · exact h.apart b h1 e2
theorem WithAt.setV {w : World} {c d : VC} {N : Nat} {ka va : Option Addr} {kl kc vl vc : Nat} {ks cs : List Value} {wx w' : World} (h : WithAt w c d N ka kl kc va vl vc ks cs wx) {p : Option Addr} {n q : Nat} {cs' : List Value}
    (hown : w'.ownsRow (N + 1) 26 6 (.slice p n q) n cs') (hb : ∀ b, b < wx.heap.size → some b ≠ (Value.slice va vl vc).ownBlock → w'.heap[b]? = wx.heap[b]?) (hp : ∀ b, (Value.slice p n q).ownBlock = some b → wx.heap.size ≤ b ∨ (Value.slice va vl vc).ownBlock = some b)
    (hlow : Below N wx w') : WithAt w c d N ka kl kc p n q ks cs' (w'.setCell ⟨N, 5, none⟩ (.slice p n q)) := by
  have hN := h.hN
  have kb : ∀ b, (Value.slice va vl vc).ownBlock = some b → N + 1 ≤ b := fun b e => (h.vals.lt b e).1
  have keep : ∀ b, b < N → w'.heap[b]? = wx.heap[b]? := fun b hlt => hlow.block b hlt
  have keepN : w'.heap[N]? = wx.heap[N]? := hb N h.out.lt (fun e => by have := kb N e.symm; omega)
  have far : ∀ b, b ≠ N → (w'.setCell ⟨N, 5, none⟩ (.slice p n q)).heap[b]? = w'.heap[b]? := fun b hne => Below.heap_setCell _ _ _ _ hne
  have hwN : w.heap.size ≤ N := by omega
  refine ⟨(h.low.trans (hlow.mono hwN)).setCell (by omega) _, (far _ (by omega)).trans ((keep _ (by omega)).trans h.bc), (far _ (by omega)).trans ((keep _ (by omega)).trans h.bd), (far _ (by omega)).trans ((keep _ (by omega)).trans h.br), ?_, ?_, ?_, fun b e1 e2 => ?_, hN⟩
  · exact Box.set5 (c := ⟨6, 0, ByteArray.empty, none, 0, 0, ka, kl, kc, va, vl, vc⟩) (keepN.trans h.out) p n q
  · refine row_same h.keys fun g hg => (far g (by have := (h.keys.lt g hg).1; omega)).trans (hb g (h.keys.lt g hg).2 fun e => h.apart g hg e.symm)
  · exact row_same hown fun g hg => far g (by have := (hown.lt g hg).1; omega)
  · rcases hp b e2 with h1 | h1
    · have := (h.keys.lt b e1).2; omega
    · exact h.apart b e1 h1
/-- An object read off two rows that a call owns. -/
theorem obj_read {w : World} {lo : Nat} {S : Nat → Prop} {m : List (ByteArray × J)} {ys : List VC} {ka va : Option Addr} {kl kc vl vc : Nat} (hk : w.ownsRow lo 9 1 (.slice ka kl kc) kl (m.map fun p => .string p.1)) (hv : w.ownsRow lo 26 6 (.slice va vl vc) vl (cellsOf ys))
    (hy : ys.length = m.length) (rd : ∀ i (_ : i < m.length) (h : i < ys.length), VR w S m[i].2 ys[i]) : VR w (fun b => S b ∨ New lo w b) (.obj m) ⟨6, 0, ByteArray.empty, none, 0, 0, ka, kl, kc, va, vl, vc⟩ := by
  have hkl : kl = m.length := by have := hk.1; simpa using this.symm
  have hvl : vl = m.length := by have := hv.1; rw [cellsOf_length] at this; omega
  rw [VR]
  refine ⟨⟨rfl, rfl, rfl, rfl, hkl, hvl, Nat.le_refl _, own_cap hk, own_cap hv, fun _ => rfl, own_none hk, own_none hv⟩, fun i hi => ?_, fun i hi => ?_, fun i hi => ?_⟩
  · simp [J.list] at hi
  · have hi' : i < m.length := hi
    obtain ⟨g, cap', e, hg, hlt⟩ := hk.form (by omega)
    cases e
    have hc := hk.cells (g := g) rfl i (.string m[i].1) (by simp [hi'])
    rw [addr_add] at hc
    exact ⟨g, 0, rfl, Or.inr ⟨hg, hlt⟩, hc⟩
  · have hi' : i < m.length := hi
    have hx' : i < ys.length := by omega
    obtain ⟨g, cap', e, hg, hlt⟩ := hv.form (by omega)
    cases e
    have h6 := row_at6 hv (g := g) rfl hx'
    exact ⟨g, 0, ys[i], rfl, Or.inr ⟨hg, hlt⟩, by simpa using h6, (rd i hi' hx').mono (fun b hb => Or.inl hb)⟩

theorem cellsOf_split (xs : List VC) {n : Nat} (hn : n ≤ xs.length) : (cellsOf xs).take (n * 6) = cellsOf (xs.take n) ∧ (cellsOf xs).drop (n * 6) = cellsOf (xs.drop n) := by
  have e : cellsOf xs = cellsOf (xs.take n) ++ cellsOf (xs.drop n) := by rw [← cellsOf_append, List.take_append_drop]
  have hl : (cellsOf (xs.take n)).length = n * 6 := by rw [cellsOf_length, List.length_take, Nat.min_eq_left hn]
  constructor
  · rw [e, List.take_left' hl]
  · rw [e, List.drop_left' hl]

/-- The readings of an object with a value at a key. -/
theorem with_rd {w : World} {S : Nat → Prop} {m : List (ByteArray × J)} {xs : List VC} {key : ByteArray} {v : J} {d : VC} {n n' : Nat} (hxl : xs.length = m.length) (hx : ∀ i (_ : i < m.length) (h : i < xs.length), VR w S m[i].2 xs[i]) (hd : VR w S v d) (hn : n ≤ m.length) (hn' : n' ≤ m.length) :
    (xs.take n ++ d :: xs.drop n').length = (m.take n ++ (key, v) :: m.drop n').length ∧ ∀ i (_ : i < (m.take n ++ (key, v) :: m.drop n').length) (h : i < (xs.take n ++ d :: xs.drop n').length), VR w S (m.take n ++ (key, v) :: m.drop n')[i].2 (xs.take n ++ d :: xs.drop n')[i] := by
  refine ⟨by simp [hxl], fun i hi h => ?_⟩
  rcases Nat.lt_trichotomy i n with h1 | h1 | h1
  · have e1 : (m.take n ++ (key, v) :: m.drop n')[i] = m[i]'(by omega) := by rw [List.getElem_append_left (by simp; omega), List.getElem_take]
    have e2 : (xs.take n ++ d :: xs.drop n')[i] = xs[i]'(by omega) := by rw [List.getElem_append_left (by simp; omega), List.getElem_take]
    rw [e1, e2]
    exact hx i (by omega) (by omega)
  · subst h1
    have e1 : (m.take i ++ (key, v) :: m.drop n')[i] = (key, v) := by rw [List.getElem_append_right (by simp; omega)]; simp [Nat.min_eq_left hn]
    have e2 : (xs.take i ++ d :: xs.drop n')[i] = d := by rw [List.getElem_append_right (by simp; omega)]; simp [Nat.min_eq_left (hxl ▸ hn)]
    rw [e1, e2]
    exact hd
  · have hi2 : i - n - 1 + n' < m.length := by simp at hi; omega
    have e1 : (m.take n ++ (key, v) :: m.drop n')[i] = m[n' + (i - n - 1)]'(by omega) := by
      rw [List.getElem_append_right (by simp; omega)]
      simp only [List.length_take, Nat.min_eq_left hn]
      rw [List.getElem_cons, dif_neg (by omega), List.getElem_drop]
    have e2 : (xs.take n ++ d :: xs.drop n')[i] = xs[n' + (i - n - 1)]'(by omega) := by
      rw [List.getElem_append_right (by simp; omega)]
      simp only [List.length_take, Nat.min_eq_left (hxl ▸ hn)]
      rw [List.getElem_cons, dif_neg (by omega), List.getElem_drop]
    rw [e1, e2]
    exact hx _ (by omega) (by omega)
/-- A Value that is stored as the result. -/
theorem spec_end {w w6 : World} {S : Nat → Prop} {j : J} {N lo : Nat} (x : VC) (hlow : Below w.heap.size w w6) (hN : w.heap.size ≤ N) (hS : ∀ b, S b → b < w.heap.size) (hlo : N < lo) (hv : VR w6 (fun b => S b ∨ New lo w6 b) j x) :
    ∃ y, Ending.returned x.val = .returned (VC.val y) ∧ VR (valStored w6 N x) (fun b => S b ∨ New w.heap.size (valStored w6 N x) b) j y ∧ Below w.heap.size w (valStored w6 N x) :=
  ⟨x, rfl, hv.go (fun b hb => valStored_block (by rcases hb with h | h; have := hS b h; omega; have := h.1; omega)) (fun b hb => hb.imp (fun h => h) (fun h => ⟨by have := h.1; omega, by rw [valStored_size]; exact h.2⟩)), valStored_below hlow hN⟩
theorem one_take {l : List Value} {n : Nat} (h : ∀ u ∈ l, u.oneCell' = true) : ∀ u ∈ l.take n, u.oneCell' = true := fun u hu => h u (List.mem_of_mem_take hu)
theorem one_drop {l : List Value} {n : Nat} (h : ∀ u ∈ l, u.oneCell' = true) : ∀ u ∈ l.drop n, u.oneCell' = true := fun u hu => h u (List.mem_of_mem_drop hu)
theorem strings_one (m : List (ByteArray × J)) : ∀ u ∈ m.map (fun p => Value.string p.1), u.oneCell' = true := by
  intro u hu
  obtain ⟨p, _, rfl⟩ := List.mem_map.1 hu
  rfl
end Go.Proofs.YtnaijgdffbfapaaGreatDoor

namespace Go.Proofs.YtnaijgdffbfapaaGreatDoor
open Go.RowKit

def nVC (h : Int) : VC := ⟨3, h, ByteArray.empty, none, 0, 0, none, 0, 0, none, 0, 0⟩
def strVC (s : ByteArray) : VC := ⟨4, 0, s, none, 0, 0, none, 0, 0, none, 0, 0⟩
theorem SNum_any (i : Nat) (hi : i ≤ 1000000) (w : World) : Calls Tryz.prog 46 #[.int .i64 (i : Int)] w fun e w' => e = .returned (VC.val (nVC (2 * (i : Int)))) ∧ Below w.heap.size w w' := by
  unfold nVC VC.val VC.arr
  go_enter Tryz.func46, Tryz.ntmps46
  go_wp2_with fail
  exact bodyPost_ret (v := .agg #[.int .i64 3, .int .i64 (2 * (i : Int)), .string ByteArray.empty, .slice none 0 0, .slice none 0 0, .slice none 0 0]) (by simp [results, Tryz.results46, go_sem]; rfl) rfl ⟨rfl, (Below.refl _ _).alloc (Nat.le_refl _) _⟩
theorem SStr_any (s : ByteArray) (w : World) : Calls Tryz.prog 47 #[.string s] w fun e w' => e = .returned (VC.val (strVC s)) ∧ Below w.heap.size w w' := by
  unfold strVC VC.val VC.arr
  go_enter Tryz.func47, Tryz.ntmps47
  go_wp2_with fail
  exact bodyPost_ret (v := .agg #[.int .i64 4, .int .i64 0, .string s, .slice none 0 0, .slice none 0 0, .slice none 0 0]) (by simp [results, Tryz.results47, go_sem]) rfl ⟨rfl, (Below.refl _ _).alloc (Nat.le_refl _) _⟩

/-- The keys of a value, as they come out. -/
def kvc (j : J) : List VC := (List.range j.list.length).map (fun i : Nat => nVC (2 * (i : Int))) ++ j.ents.map (fun p => strVC p.1)
theorem kvc_len (j : J) : (kvc j).length = (keysJ j).length := by cases j <;> simp [kvc, keysJ, J.list, J.ents]
theorem kvc_le {j : J} (h : JOK j) : j.list.length ≤ 400 ∧ j.ents.length ≤ 400 ∧ (j.list = [] ∨ j.ents = []) := by
  rw [JOK] at h
  exact ⟨h.2.2.1, h.2.2.2.1, by cases j <;> simp [J.list, J.ents]⟩

/-- The values of an array or object. -/
def EachPost (S : Nat → Prop) (j : J) (w : World) (e : Ending) (w' : World) : Prop := ∃ a n q how, e = .returned (.tuple #[.slice a n q, .int .i64 how]) ∧ n = (valsJ j).length ∧ (∀ i (_ : i < (valsJ j).length), ∃ b o x, a = some ⟨b, o, none⟩ ∧ S b ∧ At6 w b (o + i * 6) x ∧ VR w S (valsJ j)[i] x) ∧ Below w.heap.size w w'
theorem SEach_any {S : Nat → Prop} {j : J} {c : VC} {w : World} (hV : VR w S j c) : Calls Tryz.prog 37 #[c.val] w (EachPost S j w) := by
  have hk := hV.head.k; have hll := hV.head.ll; have hvl := hV.head.vl
  rw [VR] at hV
  have bx := box_alloc w c
  have HV := Lib.hid hV
  have hb : Hid (Below w.heap.size w (w.alloc (.cells c.arr 26))) := Lib.hid ((Below.refl _ _).alloc (Nat.le_refl _) _)
  clear hV bx
  obtain ⟨k0, h0, s0, la, ll, lc, ka, kl, kc, va, vl, vc⟩ := c
  simp only at hk hll hvl
  subst hk
  have HLL := Lib.hid hll; have HVL := Lib.hid hvl
  clear hll hvl
  unfold VC.val VC.arr at *
  cases j with
  | arr l =>
    simp only [J.kind]
    go_enter Tryz.func37, Tryz.ntmps37
    go_wp2_with fail
    go_ret2
    exact ⟨_, _, _, _, rfl, HLL.out, HV.out.2.1, hb.out⟩
  | obj m =>
    simp only [J.kind]
    go_enter Tryz.func37, Tryz.ntmps37
    go_wp2_with fail
    go_ret2
    refine ⟨_, _, _, _, rfl, by simpa [valsJ, J.ents] using HVL.out, fun i hi => ?_, hb.out⟩
    obtain ⟨b, o, x, h1, h2, h3, h4⟩ := HV.out.2.2.2 i (by simpa [valsJ, J.ents] using hi)
    exact ⟨b, o, x, h1, h2, h3, by simpa [valsJ, J.ents] using h4⟩
  | bool b =>
    cases b
    all_goals
      simp only [J.kind, Bool.false_eq_true, if_false, if_true]
      go_enter Tryz.func37, Tryz.ntmps37
      go_wp2_with fail
      go_ret2
      exact ⟨_, _, _, _, rfl, rfl, fun i hi => absurd hi (by simp [valsJ]), hb.out⟩
  | _ =>
    simp only [J.kind]
    go_enter Tryz.func37, Tryz.ntmps37
    go_wp2_with fail
    go_ret2
    exact ⟨_, _, _, _, rfl, rfl, fun i hi => absurd hi (by simp [valsJ]), hb.out⟩

/-- One more key. -/
theorem SKeysAt.one' {w w2 w3 : World} {c x : VC} {a : Option Addr} {n q g cp : Nat} {xs : List VC} {o : Obj} (own : w3.ownsRow (w.heap.size + 1) 26 6 (.slice (some ⟨g, 0, none⟩) (n + 1) cp) (n + 1) (cellsOf xs ++ x.arr.toList)) (hg : (w2.alloc o).grownBy w3 (Value.slice a n q).ownBlock)
    (h0 : w2.ownsRow (w.heap.size + 1) 26 6 (.slice a n q) n (cellsOf xs)) (hx : Box w2 w.heap.size c) (hb : Below w.heap.size w w2) :
    w3.ownsRow (w.heap.size + 1) 26 6 (.slice (some ⟨g, 0, none⟩) (n + 1) cp) (n + 1) (cellsOf (xs ++ [x])) ∧ Box w3 w.heap.size c ∧ Below w.heap.size w w3 := by
  refine ⟨by rw [cellsOf_append, cellsOf_one]; exact own, ?_, ?_⟩
  · exact (hx.below ((Below.refl (w.heap.size + 1) _).alloc (by have := hx.lt; omega) _) (by omega)).kept' hg (fun e => by have := (h0.lt _ e.symm).1; omega)
  · exact (hb.alloc hb.size _).grown hg (by have := hb.size; simp; omega) (fun k hk => by have := (h0.lt k hk).1; omega)
/-- The keys so far. -/
def SKeysAt (w : World) (c : VC) (n : Nat) (xs : List VC) (u : Value) (wr : World) : Prop := ∃ a q, u = .slice a n q ∧ wr.ownsRow (w.heap.size + 1) 26 6 (.slice a n q) n (cellsOf xs) ∧ Box wr w.heap.size c ∧ Below w.heap.size w wr

def SKeysPost (j : J) (w : World) (e : Ending) (w' : World) : Prop := ∃ a q, e = .returned (.slice a (keysJ j).length q) ∧ w'.ownsRow (w.heap.size + 1) 26 6 (.slice a (keysJ j).length q) (keysJ j).length (cellsOf (kvc j)) ∧ Below w.heap.size w w'

set_option maxRecDepth 100000 in
theorem SKeysOf_any {S : Nat → Prop} {j : J} {c : VC} {w : World} (hj : JOK j) (hV : VR w S j c) (hS : ∀ b, S b → b < w.heap.size) : Calls Tryz.prog 38 #[c.val] w (SKeysPost j w) := by
  obtain ⟨i0, hi, hz0, hz1, hz2⟩ := info_parts info_value
  have I0 := Lib.hid hi; have I1 := Lib.hid hz0; have I2 := Lib.hid hz1; have I3 := Lib.hid hz2
  obtain ⟨h4l, h4e, hor⟩ := kvc_le hj
  have hll := hV.head.ll; have hkl := hV.head.kl
  rw [VR] at hV
  have bx := box_alloc w c
  have HV := Lib.hid hV.2.2.1
  have HB0 : Hid (Below w.heap.size w (w.alloc (.cells c.arr 26))) := Lib.hid ((Below.refl _ _).alloc (Nat.le_refl _) _)
  have BX := Lib.hid bx; have HS := Lib.hid hS; have HOR := Lib.hid hor
  clear hV bx hi hz0 hz1 hz2 hj hS hor
  obtain ⟨k0, h0, s0, la, ll, lc, ka, kl, kc, va, vl, vc⟩ := c
  simp only at hll hkl HV
  subst hll hkl
  unfold VC.val VC.arr at *
  go_enter Tryz.func38, Tryz.ntmps38
  have b3 := BX.out.c3; have b4 := BX.out.c4
  go_wp2_with fail
  go_loopw [3, 10] (fun u i wr => ∃ k : Nat, i = .int .i64 k ∧ k ≤ j.list.length ∧ SKeysAt w ⟨k0, h0, s0, la, j.list.length, lc, ka, j.ents.length, kc, va, vl, vc⟩ k ((List.range k).map fun i : Nat => nVC (2 * (i : Int))) u wr) (fun _ i _ => j.list.length - (intOf i).toNat)
  case atStart => exact ⟨0, rfl, Nat.zero_le _, none, 0, rfl, World.ownsRow_nil _ _ _ _, BX.out, HB0.out⟩
  case round =>
    obtain ⟨k, rfl, hk, a, q, rfl, hown, hbx, hbw⟩ := hrel
    have OWN := Lib.hid hown; have BX2 := Lib.hid hbx; have BW := Lib.hid hbw
    clear hown hbx hbw b3 b4
    by_cases hlt : k < j.list.length
    · go_wp2_with fail
      refine (SNum_any k (by omega) _).mono ?_
      rintro e w2 ⟨rfl, hb2⟩
      have O2 := Lib.hid (row_below OWN.out hb2)
      have X2 := Lib.hid (BX2.out.below hb2 BX2.out.lt)
      have B2 := Lib.hid (BW.out.trans (hb2.mono BW.out.size))
      have sz2 := hb2.size; have szw := BX2.out.lt
      clear hb2
      have eb : Below w2.heap.size w2 (w2.alloc (.cells (VC.arr (nVC (2 * (k : Int)))) 26)) := (Below.refl _ _).alloc (Nat.le_refl _) _
      have HEB := Lib.hid eb
      have NW := Lib.hid (World.news_of_block (heap_alloc_new w2 (.cells (VC.arr (nVC (2 * (k : Int)))) 26)))
      have OX := Lib.hid (row_below O2.out eb)
      have AC := Lib.hid (arr_cells (nVC (2 * (k : Int))))
      clear eb
      unfold nVC VC.arr at NW OX AC HEB
      unfold nVC VC.val VC.arr
      go_wp2_with (at_builtin; refine wpList_append_lies _ rfl _ _ 23 rfl (w.heap.size + 1) 26 i0 zeroVC 6 104 Tryz.underlying23 I0.out I1.out I2.out I3.out rfl (by omega) (.slice a k q) k _ rfl OX.out ⟨w2.heap.size, 0, none⟩ 1 1 _ rfl rfl NW.out AC.out (by omega) (by unfold maxLen; omega) (by omega) (by simp; omega) (w2.heap.size + 1) (by simp) ?_; intro g cp w3 hown3 hgrow hat hlt3; have OW := Lib.hid hown3; have GW := Lib.hid hgrow; have AT := Lib.hid hat; clear hown3 hgrow hat)
      have K := Lib.hid (SKeysAt.one' (x := nVC (2 * (k : Int))) OW.out GW.out O2.out X2.out B2.out)
      clear OW GW AT
      go_roundw
      case rel => exact ⟨k + 1, by go_num, by omega, _, _, rfl, by rw [List.range_succ, List.map_append]; exact K.out.1, K.out.2.1, K.out.2.2⟩
      case measure => simp [intOf]; omega
    · obtain rfl : k = j.list.length := by omega
      have b4 := BX2.out.c4
      go_wp2_with fail
      go_loopw [3, 22] (fun u i wr => ∃ k : Nat, i = .int .i64 k ∧ k ≤ j.ents.length ∧ SKeysAt w ⟨k0, h0, s0, la, j.list.length, lc, ka, j.ents.length, kc, va, vl, vc⟩ (j.list.length + k) ((List.range j.list.length).map (fun i : Nat => nVC (2 * (i : Int))) ++ (j.ents.take k).map (fun p => strVC p.1)) u wr) (fun _ i _ => j.ents.length - (intOf i).toNat)
      case atStart => exact ⟨0, rfl, Nat.zero_le _, a, q, rfl, by simpa using OWN.out, BX2.out, BW.out⟩
      case round =>
        obtain ⟨k, rfl, hk2, a2, q2, rfl, hown2, hbx2, hbw2⟩ := hrel
        have OWN2 := Lib.hid hown2; have BX3 := Lib.hid hbx2; have BW3 := Lib.hid hbw2
        clear hown2 hbx2 hbw2 b4 OWN BX2 BW
        by_cases hlt2 : k < j.ents.length
        · obtain ⟨kb, ko, rfl, hkb, hkc⟩ := HV.out k hlt2
          have hc := (BW3.out.cell (p := ⟨kb, ko + k, none⟩) (HS.out kb hkb)).trans hkc
          have hl0 : j.list.length = 0 := by
            rcases HOR.out with h | h
            · rw [h]; rfl
            · rw [h] at hlt2; simp at hlt2
          obtain ⟨s, hs⟩ : ∃ s, s = j.ents[k].1 := ⟨_, rfl⟩
          rw [← hs] at hc
          have HSS := Lib.hid hs; have HL0 := Lib.hid hl0
          clear hkc hs hl0
          go_wp2_with fail
          refine (SStr_any s _).mono ?_
          rintro e w2 ⟨rfl, hb2⟩
          have O2 := Lib.hid (row_below OWN2.out hb2)
          have X2 := Lib.hid (BX3.out.below hb2 BX3.out.lt)
          have B2 := Lib.hid (BW3.out.trans (hb2.mono BW3.out.size))
          have sz2 := hb2.size; have szw := BX3.out.lt
          clear hb2 hc
          have eb : Below w2.heap.size w2 (w2.alloc (.cells (VC.arr (strVC s)) 26)) := (Below.refl _ _).alloc (Nat.le_refl _) _
          have NW := Lib.hid (World.news_of_block (heap_alloc_new w2 (.cells (VC.arr (strVC s)) 26)))
          have OX := Lib.hid (row_below O2.out eb)
          have AC := Lib.hid (arr_cells (strVC s))
          clear eb
          unfold strVC VC.arr at NW OX AC
          unfold strVC VC.val VC.arr
          go_wp2_with (at_builtin; refine wpList_append_lies _ rfl _ _ 23 rfl (w.heap.size + 1) 26 i0 zeroVC 6 104 Tryz.underlying23 I0.out I1.out I2.out I3.out rfl (by omega) (.slice a2 (j.list.length + k) q2) (j.list.length + k) _ rfl OX.out ⟨w2.heap.size, 0, none⟩ 1 1 _ rfl rfl NW.out AC.out (by omega) (by unfold maxLen; omega) (by omega) (by simp; omega) (w2.heap.size + 1) (by simp) ?_; intro g cp w3 hown3 hgrow hat hlt3; have OW := Lib.hid hown3; have GW := Lib.hid hgrow; have AT := Lib.hid hat; clear hown3 hgrow hat)
          have K := Lib.hid (SKeysAt.one' (x := strVC s) OW.out GW.out O2.out X2.out B2.out)
          clear OW GW AT
          go_roundw
          case rel => exact ⟨k + 1, by go_num, by omega, _, _, rfl, by rw [List.take_succ_eq_append_getElem hlt2, List.map_append, ← List.append_assoc, List.map_cons, List.map_nil, ← HSS.out]; exact K.out.1, K.out.2.1, K.out.2.2⟩
          case measure => simp [intOf]; omega
        · obtain rfl : k = j.ents.length := by omega
          go_wp2_with fail
          go_ret
          have hlen : (keysJ j).length = j.list.length + j.ents.length := by rw [← kvc_len]; simp [kvc]
          refine ⟨a2, q2, by rw [hlen]; rfl, ?_, BW3.out⟩
          have := OWN2.out
          rw [List.take_length] at this
          rw [hlen]
          exact this
end Go.Proofs.YtnaijgdffbfapaaGreatDoor
