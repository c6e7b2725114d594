/- append of a row that a callee made; rows of Values that read as a list. -/
import Derived.Test.YtofpdcjgakmlnaaGreatDoorM17
import Derived.Laws.AppendOwnNone
namespace Go.Proofs.YtofpdcjgakmlnaaGreatDoor
open Go.RowKit

section
variable {P : Program} {w : World} {ops : Array Oper} {rest : List Oper} {o : Oper} {a : Act} {Q : Exit → Act → World → Prop}
/-- append of a whole row that a callee made, nil or not. -/
theorem wpList_append_row (hgd : o.guard = none) (s x : Operand) (t : TypeId) (ho : o.op = .call { callee := .builtin .append, args := #[s, x], argTypes := #[t, t] })
    (base : Nat) (e : TypeId) (i : TypeInfo) (z : Value) (size bytes : Nat) (ht : P.underlying t = some (.slice e)) (hi : P.info? e = some i) (hz : i.zero = some z)
    (hsize : i.size = size) (hby : i.bytes = bytes) (hzs : z.cells.size = size) (hsz : 0 < size)
    (v : Value) (n : Nat) (xs : List Value) (hs : a.eval s = v) (hown : w.ownsRow base e size v n xs)
    (v2 : Value) (n2 base2 : Nat) (ys : List Value) (hx : a.eval x = v2) (hown2 : w.ownsRow base2 e size v2 n2 ys) (h1 : ∀ u ∈ ys, u.oneCell' = true)
    (h63 : n + n2 ≤ maxLen) (hbytes : (n + n2) * bytes ≤ 140737488355328) (hbase : base ≤ w.heap.size)
    (h : ∀ v' w', w'.ownsRow base e size v' (n + n2) (xs ++ ys) → w.grownBy w' v.ownBlock → (v'.ownBlock = v.ownBlock ∨ v'.ownBlock = some w.heap.size) → wpList P ops Q rest (a.put o.dst v') w') : wpList P ops Q (o :: rest) a w := by
  rcases hown2.2 with ⟨rfl, rfl⟩ | ⟨g, cap, cur, rfl, _, _, _⟩
  · obtain rfl : ys = [] := List.eq_nil_of_length_eq_zero (by simpa using hown2.1)
    refine wpList_append_own_none hgd s x t ho base e i size ht hi v n xs hs hown hx (h v w (by simpa using hown) (grown_of_below0 (Below.refl _ _) _) (Or.inl rfl))
  · exact wpList_append_own_at w hgd s x t ho base e i z size bytes ht hi hz hsize hby hzs hsz v n xs hs hown ⟨g, 0, none⟩ n2 cap ys hx hown2.1 (hown2.cells (g := g) rfl) h1 h63 hbytes hbase (fun v' w' h2 h3 _ h5 => h v' w' h2 h3 h5)
end

/-- Values in a row that a call owns, each a reading in blocks of S. -/
def VRow (lo : Nat) (S : Nat → Prop) (l : List J) (v : Value) (xs : List VC) (w : World) : Prop :=
  w.ownsRow lo 27 6 v xs.length (cellsOf xs) ∧ xs.length = l.length ∧ ∀ i (_ : i < l.length) (h : i < xs.length), VR w S l[i] xs[i]
theorem VRow.nil (lo : Nat) (S : Nat → Prop) (w : World) : VRow lo S [] (.slice none 0 0) [] w := ⟨World.ownsRow_nil _ _ _ _, rfl, fun i h => absurd h (Nat.not_lt_zero i)⟩
theorem VRow.form {lo : Nat} {S : Nat → Prop} {l : List J} {v : Value} {xs : List VC} {w : World} (h : VRow lo S l v xs w) : ∃ a cap, v = .slice a l.length cap := by
  obtain ⟨h1, h2, _⟩ := h
  rcases h1.2 with ⟨rfl, h0⟩ | ⟨g, cap, cur, rfl, _⟩
  · exact ⟨none, 0, by rw [← h2, h0]⟩
  · exact ⟨some ⟨g, 0, none⟩, cap, by rw [h2]⟩
theorem row_form {w : World} {base size : Nat} {e : TypeId} {v : Value} {n : Nat} {xs : List Value} (h : w.ownsRow base e size v n xs) : ∃ a cap, v = .slice a n cap := by
  rcases h.2 with ⟨rfl, h0⟩ | ⟨g, cap, cur, rfl, _⟩
  · exact ⟨none, 0, by rw [h0]⟩
  · exact ⟨some ⟨g, 0, none⟩, cap, rfl⟩
theorem VRow.go {lo : Nat} {S S' : Nat → Prop} {l : List J} {v : Value} {xs : List VC} {w w' : World} (h : VRow lo S l v xs w) (hr : w'.ownsRow lo 27 6 v xs.length (cellsOf xs)) (hb : Same S w w') (hS : ∀ b, S b → S' b) : VRow lo S' l v xs w' :=
  ⟨hr, h.2.1, fun i hi hx => (h.2.2 i hi hx).go hb hS⟩
theorem VRow.append {lo : Nat} {S : Nat → Prop} {l l' : List J} {v : Value} {xs ys : List VC} {w : World} (hr : w.ownsRow lo 27 6 v (xs.length + ys.length) (cellsOf xs ++ cellsOf ys)) (h1 : xs.length = l.length) (h2 : ys.length = l'.length)
    (hx : ∀ i (_ : i < l.length) (h : i < xs.length), VR w S l[i] xs[i]) (hy : ∀ i (_ : i < l'.length) (h : i < ys.length), VR w S l'[i] ys[i]) : VRow lo S (l ++ l') v (xs ++ ys) w := by
  refine ⟨by rw [List.length_append, cellsOf_append]; exact hr, by simp [h1, h2], fun i hi hx' => ?_⟩
  rcases Nat.lt_or_ge i l.length with h | h
  · rw [List.getElem_append_left h, List.getElem_append_left (by omega)]
    exact hx i h (by omega)
  · rw [List.getElem_append_right h, List.getElem_append_right (by omega)]
    simp only [h1]
    exact hy (i - l.length) (by simp at hi; omega) (by simp at hx'; omega)
theorem cells_one (xs : List VC) : ∀ u ∈ cellsOf xs, u.oneCell' = true := by
  intro u hu
  simp only [cellsOf, List.mem_flatMap] at hu
  obtain ⟨c, _, hc⟩ := hu
  exact arr_cells c u hc

/-- An array read off a row. -/
theorem VRow.vr {lo : Nat} {S : Nat → Prop} {l : List J} {a : Option Addr} {n cap : Nat} {xs : List VC} {w : World} (h : VRow lo S l (.slice a n cap) xs w) (c : VC) (hk : c.k = 5) (hh : c.h = 0) (hs : c.s = ByteArray.empty) (ha : c.la = a) (hl : c.ll = n) (hn : n = l.length) (hkl : c.kl = 0) (hvl : c.vl = 0) (hlc : c.lc = cap) (hkc : c.kc = 0) (hvc : c.vc = 0) :
    VR w (fun b => S b ∨ (lo ≤ b ∧ b < w.heap.size)) (.arr l) c := by
  rw [VR]
  refine ⟨⟨hk, hh, hs, by rw [hl, hn]; rfl, hkl, hvl, by rw [hl, hlc]; have h1 := h.1; rw [h.2.1, ← hn] at h1; exact own_cap h1, by rw [hkl]; exact Nat.zero_le _, by rw [hvl]; exact Nat.zero_le _, by rw [ha, hlc]; have h1 := h.1; rw [h.2.1, ← hn] at h1; exact own_none h1, fun _ => hkc, fun _ => hvc⟩, fun i hi => ?_, fun i hi => ?_, fun i hi => ?_⟩
  · have hi' : i < l.length := hi
    have hx' : i < xs.length := by have := h.2.1; omega
    obtain ⟨g, cap', e, hg, hlt⟩ := h.1.form (by omega)
    cases e
    have h6 := row_at6 h.1 (g := g) rfl hx'
    exact ⟨g, 0, xs[i], ha, Or.inr ⟨hg, hlt⟩, by simpa using h6, (h.2.2 i hi' hx').mono (fun b hb => Or.inl hb)⟩
  · simp [J.ents] at hi
  · simp [J.ents] at hi
end Go.Proofs.YtofpdcjgakmlnaaGreatDoor
