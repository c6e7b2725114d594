/- A part of the proof. -/
import Derived.Test.YtnaijgdffbfapaaGreatDoorM28
import Derived.Test.YtnaijgdffbfapaaGreatDoorM19
namespace Go.Proofs.YtnaijgdffbfapaaGreatDoor
open Go.RowKit

/-- Cells in a row at an address, if there are any. -/
def Lies (w : World) (a : Option Addr) (cs : List Value) : Prop := ∀ j u, cs[j]? = some u → ∃ b o, a = some ⟨b, o, none⟩ ∧ w.cell? ⟨b, o + j, none⟩ = some u

theorem src_head {w : World} {a : Option Addr} {size len cap n : Nat} {cs : List Value} (h : Lies w a cs) (hl : cs.length = len * size) (hn : n ≤ len) (hc : len ≤ cap) (hz : a = none → cap = 0) : Src w size (sliced a 0 n cap size) n (cs.take (n * size)) := by
  have hlen : (cs.take (n * size)).length = n * size := by rw [List.length_take, hl, Nat.min_eq_left (Nat.mul_le_mul_right _ hn)]
  cases a with
  | none =>
    have h0 := hz rfl
    obtain rfl : n = 0 := by omega
    subst h0
    refine Or.inl ⟨by simp [sliced], rfl, by simp⟩
  | some ad =>
    refine Or.inr ⟨if cap = 0 then ad else ad.add (0 * size), cap - 0, ?_, hlen, fun j u hj => ?_⟩
    · unfold sliced
      split <;> rfl
    · have hj' : cs[j]? = some u := by
        rw [List.getElem?_take] at hj
        split at hj
        · exact hj
        · cases hj
      obtain ⟨b, o, e, hcell⟩ := h j u hj'
      cases e
      have e1 : (if cap = 0 then (⟨b, o, none⟩ : Addr) else (⟨b, o, none⟩ : Addr).add (0 * size)) = ⟨b, o, none⟩ := by split <;> simp [Addr.add]
      rw [e1, addr_add]
      exact hcell

theorem src_tail {w : World} {a : Option Addr} {size len cap l : Nat} {cs : List Value} (h : Lies w a cs) (hl : cs.length = len * size) (hn : l ≤ len) (hc : len ≤ cap) (hz : a = none → cap = 0) : Src w size (sliced a l len cap size) (len - l) (cs.drop (l * size)) := by
  have hlen : (cs.drop (l * size)).length = (len - l) * size := by rw [List.length_drop, hl, Nat.sub_mul]
  cases a with
  | none =>
    have h0 := hz rfl
    obtain rfl : len = 0 := by omega
    obtain rfl : l = 0 := by omega
    subst h0
    have : cs = [] := List.eq_nil_of_length_eq_zero (by simpa using hl)
    subst this
    exact Or.inl ⟨by simp [sliced], rfl, by simp⟩
  | some ad =>
    refine Or.inr ⟨if cap = l then ad else ad.add (l * size), cap - l, ?_, hlen, fun j u hj => ?_⟩
    · unfold sliced
      split <;> rfl
    · rw [List.getElem?_drop] at hj
      obtain ⟨b, o, e, hcell⟩ := h _ u hj
      cases e
      have hjl := (List.getElem?_eq_some_iff.1 hj).1
      have hne : ¬ cap = l := by
        intro e
        have : len = l := by omega
        rw [this] at hl
        omega
      rw [if_neg hne, addr_add, addr_add]
      have e2 : o + l * size + j = o + (l * size + j) := by omega
      rw [e2]
      exact hcell
theorem Lies.keep {w w' : World} {a : Option Addr} {cs : List Value} (h : Lies w a cs) (hb : ∀ b o, a = some ⟨b, o, none⟩ → cs ≠ [] → w'.heap[b]? = w.heap[b]?) : Lies w' a cs := fun j u hj => by
  obtain ⟨b, o, e, hc⟩ := h j u hj
  refine ⟨b, o, e, (World.cell?_of_block (a := ⟨b, o + j, none⟩) (hb b o e ?_)).trans hc⟩
  rintro rfl
  simp at hj

theorem size_strings (w : World) : (sizeOf (Tryz.prog.elem 24)).run Tryz.prog w = .ok 1 w := by kernel_rfl
theorem size_values (w : World) : (sizeOf (Tryz.prog.elem 23)).run Tryz.prog w = .ok 6 w := by kernel_rfl
theorem head_strings (a : Option Addr) (len cap n : Nat) (h : n ≤ cap) (w : World) : (Instr.sliceAt 24 (.slice a len cap) none (some (.int .i64 (n : Int))) none).run Tryz.prog w = .ok (sliced a 0 n cap 1) w := by
  rw [run_sliceAt_slice _ _ _ _ _ _ (by kernel_rfl), run_slice_h _ _ _ _ _ (by kernel_rfl) .i64 n (by omega) (by omega), size_strings]
  rfl
theorem head_values (a : Option Addr) (len cap n : Nat) (h : n ≤ cap) (w : World) : (Instr.sliceAt 23 (.slice a len cap) none (some (.int .i64 (n : Int))) none).run Tryz.prog w = .ok (sliced a 0 n cap 6) w := by
  rw [run_sliceAt_slice _ _ _ _ _ _ (by kernel_rfl), run_slice_h _ _ _ _ _ (by kernel_rfl) .i64 n (by omega) (by omega), size_values]
  rfl
theorem tail_strings (a : Option Addr) (len cap n : Nat) (h : n ≤ len) (w : World) : (Instr.sliceAt 24 (.slice a len cap) (some (.int .i64 (n : Int))) none none).run Tryz.prog w = .ok (sliced a n len cap 1) w := by
  rw [run_sliceAt_slice _ _ _ _ _ _ (by kernel_rfl), run_slice_l _ _ _ _ _ (by kernel_rfl) .i64 n (by omega) (by omega), size_strings]
  rfl
theorem tail_values (a : Option Addr) (len cap n : Nat) (h : n ≤ len) (w : World) : (Instr.sliceAt 23 (.slice a len cap) (some (.int .i64 (n : Int))) none none).run Tryz.prog w = .ok (sliced a n len cap 6) w := by
  rw [run_sliceAt_slice _ _ _ _ _ _ (by kernel_rfl), run_slice_l _ _ _ _ _ (by kernel_rfl) .i64 n (by omega) (by omega), size_values]
  rfl

section
variable {news : List (Nat × Tmp)} {olds : List (Tmp × Value)} {L : List KnE} {w0 : World} {i : Nat} {o : Oper}

/-- x[:n] -/
theorem kn_head {a : Option Addr} {len cap n size : Nat} (T : TypeId) (j k : Nat) (x y : Tmp) (heat : eatB L = true) (hL : L[i]? = some (.v (sliced a 0 n cap size))) (ho : o.op = .slice T (.tmp x) none (some (.tmp y)) none) (hx : (j, x) ∈ news) (hj : L[j]? = some (.v (.slice a len cap))) (hw : waitsB o j = true)
    (hy : (k, y) ∈ news) (hk : L[k]? = some (.v (.int .i64 (n : Int)))) (hwy : waitsB o k = true) (hrun : ∀ w, (Instr.sliceAt T (.slice a len cap) none (some (.int .i64 (n : Int))) none).run Tryz.prog w = .ok (sliced a 0 n cap size) w) : StepOKE Tryz.prog news olds (knE L) w0 i o :=
  step_kn [(j, x, _), (k, y, _)] heat hL (uses2 hx hj hw hy hk hwy) fun b w e _ _ => by
    have e1 := e _ List.mem_cons_self
    have e2 := e _ (List.mem_cons_of_mem _ List.mem_cons_self)
    simp only at e1 e2
    unfold execOp
    simp only [ho, e1, e2, Option.map_some, Option.map_none, Sem.run_bind, hrun w, Sem.run_pure, Result.andThen_ok]
/-- x[n:] -/
theorem kn_tail {a : Option Addr} {len cap n size : Nat} (T : TypeId) (j k : Nat) (x y : Tmp) (heat : eatB L = true) (hL : L[i]? = some (.v (sliced a n len cap size))) (ho : o.op = .slice T (.tmp x) (some (.tmp y)) none none) (hx : (j, x) ∈ news) (hj : L[j]? = some (.v (.slice a len cap))) (hw : waitsB o j = true)
    (hy : (k, y) ∈ news) (hk : L[k]? = some (.v (.int .i64 (n : Int)))) (hwy : waitsB o k = true) (hrun : ∀ w, (Instr.sliceAt T (.slice a len cap) (some (.int .i64 (n : Int))) none none).run Tryz.prog w = .ok (sliced a n len cap size) w) : StepOKE Tryz.prog news olds (knE L) w0 i o :=
  step_kn [(j, x, _), (k, y, _)] heat hL (uses2 hx hj hw hy hk hwy) fun b w e _ _ => by
    have e1 := e _ List.mem_cons_self
    have e2 := e _ (List.mem_cons_of_mem _ List.mem_cons_self)
    simp only at e1 e2
    unfold execOp
    simp only [ho, e1, e2, Option.map_some, Option.map_none, Sem.run_bind, hrun w, Sem.run_pure, Result.andThen_ok]
/-- What is appended lies in old memory, at a. -/
theorem src_lies {size m : Nat} {v2 : Value} {ys cs : List Value} {a : Option Addr} (j : Nat) (x : Tmp) (heat : eatB L = true) (hx : (j, x) ∈ news) (hj : L[j]? = some (.v v2)) (hw : waitsB o j = true) (hl : Lies w0 a cs) (hblk : ∀ b o', a = some ⟨b, o', none⟩ → cs ≠ [] → b < w0.heap.size ∧ ∀ k ∈ L, k.old ≠ some b)
    (h : ∀ w, Lies w a cs → Src w size v2 m ys) : SrcOK news olds L w0 o (.tmp x) size m ys := by
  intro d u S w b hp hR hd
  have ex := (uses1 hx hj hw).eval heat hp hR hd _ List.mem_cons_self
  simp only at ex
  rw [ex]
  exact h w (hl.keep fun b o' e hne => planE_keep hp b (hblk b o' e hne).1 (hblk b o' e hne).2)
end

theorem choose_list {α : Type} : ∀ (n : Nat) (P : Nat → α → Prop), (∀ i, i < n → ∃ x, P i x) → ∃ xs : List α, xs.length = n ∧ ∀ i (h : i < xs.length), P i xs[i]
  | 0, _, _ => ⟨[], rfl, fun i h => absurd h (Nat.not_lt_zero i)⟩
  | n + 1, P, h => by
    obtain ⟨xs, hl, hp⟩ := choose_list n P (fun i hi => h i (by omega))
    obtain ⟨x, hx⟩ := h n (by omega)
    refine ⟨xs ++ [x], by simp [hl], fun i hi => ?_⟩
    rcases Nat.lt_or_ge i xs.length with h1 | h1
    · rw [List.getElem_append_left h1]; exact hp i h1
    · have e : i = n := by simp at hi; omega
      subst e
      rw [List.getElem_append_right h1]
      simpa [hl] using hx

/-- The values of an object as a row of cells. -/
theorem vr_obj {w : World} {S : Nat → Prop} {m : List (ByteArray × J)} {c : VC} (h : VR w S (.obj m) c) :
    ∃ xs : List VC, xs.length = m.length ∧ (∀ i (_ : i < m.length) (hx : i < xs.length), VR w S m[i].2 xs[i]) ∧ Lies w c.ka (m.map fun p => .string p.1) ∧ Lies w c.va (cellsOf xs) ∧ (∀ b o, c.ka = some ⟨b, o, none⟩ → m ≠ [] → S b) ∧ ∀ b o, c.va = some ⟨b, o, none⟩ → m ≠ [] → S b := by
  rw [VR] at h
  obtain ⟨_, _, hk, hv⟩ := h
  have hv' : ∀ i (_ : i < m.length), ∃ b o x, c.va = some ⟨b, o, none⟩ ∧ S b ∧ At6 w b (o + i * 6) x ∧ VR w S m[i].2 x := hv
  have hk' : ∀ i (_ : i < m.length), ∃ b o, c.ka = some ⟨b, o, none⟩ ∧ S b ∧ w.cell? ⟨b, o + i, none⟩ = some (.string m[i].1) := hk
  obtain ⟨xs, hxl, hf⟩ := choose_list m.length (fun i x => ∃ b o, c.va = some ⟨b, o, none⟩ ∧ S b ∧ At6 w b (o + i * 6) x ∧ ∀ h : i < m.length, VR w S m[i].2 x) (fun i h => by
    obtain ⟨b, o, x, h1, h2, h3, h4⟩ := hv' i h
    exact ⟨x, b, o, h1, h2, h3, fun _ => h4⟩)
  refine ⟨xs, hxl, fun i hi hx => ?_, fun j u hj => ?_, fun j u hj => ?_, fun b o e hne => ?_, fun b o e hne => ?_⟩
  · obtain ⟨_, _, _, _, _, h4⟩ := hf i hx
    exact h4 hi
  · rw [List.getElem?_map] at hj
    cases hm : m[j]? with
    | none => rw [hm] at hj; cases hj
    | some p =>
      rw [hm] at hj
      obtain ⟨hj', rfl⟩ := List.getElem?_eq_some_iff.1 hm
      cases hj
      obtain ⟨b, o, h1, _, h3⟩ := hk' j hj'
      exact ⟨b, o, h1, h3⟩
  · have hjl := (List.getElem?_eq_some_iff.1 hj).1
    rw [cellsOf_length] at hjl
    have hx : j / 6 < xs.length := by omega
    have hq : j % 6 < 6 := Nat.mod_lt _ (by decide)
    have ej : j / 6 * 6 + j % 6 = j := by omega
    have hu := cellsOf_get xs hx hq
    rw [ej, hj] at hu
    obtain ⟨b, o, h1, _, h3, _⟩ := hf (j / 6) hx
    refine ⟨b, o, h1, ?_⟩
    have ea : o + j = o + j / 6 * 6 + j % 6 := by omega
    rw [ea]
    generalize j % 6 = q at hu hq
    have h0 := h3.c0; have h4 := h3.c1; have h5 := h3.c2; have h6 := h3.c3; have h7 := h3.c4; have h8 := h3.c5
    unfold VC.arr at hu
    rcases q with _ | _ | _ | _ | _ | _ | q
    all_goals first | omega | (simp at hu; rw [hu]; assumption)
  · obtain ⟨p, q, rfl⟩ := List.exists_cons_of_ne_nil hne
    obtain ⟨b', o', h1, h2, _⟩ := hk' 0 (by simp)
    rw [e] at h1; cases h1; exact h2
  · obtain ⟨p, q, rfl⟩ := List.exists_cons_of_ne_nil hne
    obtain ⟨b', o', x, h1, h2, _⟩ := hv' 0 (by simp)
    rw [e] at h1; cases h1; exact h2
end Go.Proofs.YtnaijgdffbfapaaGreatDoor
